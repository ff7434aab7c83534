/-
  impl.quietly: a call that does not panic.
-/
import Derived.Test.YtammjbmfiakbnaaGreatDoorB
import Derived.Defers
import Derived.Recover
namespace Go.Proofs.YtammjbmfiakbnaaGreatDoor
set_option maxHeartbeats 2000000
set_option maxRecDepth 100000
set_option linter.unusedSimpArgs false
set_option linter.unusedVariables false
open Go.RowKit Go.Proofs.YtammjbmfiakbnaaGreatDoorW.PrintWords Go.Proofs.YtammjbmfiakbnaaGreatDoorW.PrintLast Go.Proofs.YtammjbmfiakbnaaGreatDoorW.PrintMore
theorem catch_idle (p : Addr) (w : World) :
    CallsD Tryz.prog 40 #[.pointer (some p)] .returning w fun e u' w' => e = .returned (.tuple #[]) ∧ u' = .returning ∧ w' = w := by
  refine callsD_of_wpS Tryz.func40 rfl fun c₀ cs hu => ?_
  apply wpS_seq
  apply wpS_region
  simp [wpOpsS, go_sem, recoverD, hu, Tryz.ntmps40, Exit.thenS]
  refine wpS_cond (t := false) (by simp [Act.eval, Array.replicate]) ?_
  simp only [Bool.false_eq_true, if_false]
  refine wpS_of_wp (wp_skip ?_)
  cases c₀
  simp_all [bodyPostS, results, Tryz.results40]
theorem quietly_22 {R : World → Prop} (w : World) (cap : Array Value) (hk : Calls Tryz.prog 22 cap (w.alloc (.cells #[.bool false] 4)) fun e w1 => e = .returned (.tuple #[]) ∧ w1.heap[w.heap.size]? = some (.cells #[.bool false] 4 (0, 0)) ∧ R w1) :
    Calls Tryz.prog 21 #[.func (.func 22) #[] cap] w fun e w' => e = .returned (.bool true) ∧ ∃ w1, R w1 ∧ w1.heap[w.heap.size]? = some (.cells #[.bool false] 4 (0, 0)) ∧ w' = w1.setCell ⟨w.heap.size, 0, none⟩ (.bool true) := by
  have hmf : ∀ (fn : Fn) (first cap : Array Value) (w : World), (Instr.makeFunc fn first cap).run Tryz.prog w = .ok (.func fn first cap) w := fun _ _ _ _ => rfl
  go_enter_defers Tryz.func21, Tryz.ntmps21
  go_wp2_with fail
  refine hk.mono ?_
  rintro e w1 ⟨rfl, hb, hR⟩
  have hc : w1.cell? ⟨w.heap.size, 0, none⟩ = some (.bool false) := (cell_of_row _ _ 0 _ _ _ hb).trans rfl
  have hf : w1.frozen? ⟨w.heap.size, 0, none⟩ = false := blk_froz hb
  go_wp2
  refine leaves_cons (f := 40) (args := #[.pointer (some ⟨w.heap.size, 0, none⟩)]) (by simp) (by simp [go_sem]) ?_
  refine (catch_idle ⟨w.heap.size, 0, none⟩ _).mono ?_
  rintro e u' w'' ⟨rfl, rfl, rfl⟩
  have hb2 := (blk_set hb 0 (.bool true)).trans rfl
  have hc2 : (w1.setCell ⟨w.heap.size, 0, none⟩ (.bool true)).cell? ⟨w.heap.size, 0, none⟩ = some (.bool true) := (cell_of_row _ _ 0 _ _ _ hb2).trans rfl
  simp [Leaves, settle, results, Tryz.results21, go_sem, hc2]
  exact ⟨w1, hR, hb, rfl⟩
theorem quietly_36 {R : World → Prop} (w : World) (cap : Array Value) (hk : Calls Tryz.prog 36 cap (w.alloc (.cells #[.bool false] 4)) fun e w1 => e = .returned (.tuple #[]) ∧ w1.heap[w.heap.size]? = some (.cells #[.bool false] 4 (0, 0)) ∧ R w1) :
    Calls Tryz.prog 21 #[.func (.func 36) #[] cap] w fun e w' => e = .returned (.bool true) ∧ ∃ w1, R w1 ∧ w1.heap[w.heap.size]? = some (.cells #[.bool false] 4 (0, 0)) ∧ w' = w1.setCell ⟨w.heap.size, 0, none⟩ (.bool true) := by
  have hmf : ∀ (fn : Fn) (first cap : Array Value) (w : World), (Instr.makeFunc fn first cap).run Tryz.prog w = .ok (.func fn first cap) w := fun _ _ _ _ => rfl
  go_enter_defers Tryz.func21, Tryz.ntmps21
  go_wp2_with fail
  refine hk.mono ?_
  rintro e w1 ⟨rfl, hb, hR⟩
  have hc : w1.cell? ⟨w.heap.size, 0, none⟩ = some (.bool false) := (cell_of_row _ _ 0 _ _ _ hb).trans rfl
  have hf : w1.frozen? ⟨w.heap.size, 0, none⟩ = false := blk_froz hb
  go_wp2
  refine leaves_cons (f := 40) (args := #[.pointer (some ⟨w.heap.size, 0, none⟩)]) (by simp) (by simp [go_sem]) ?_
  refine (catch_idle ⟨w.heap.size, 0, none⟩ _).mono ?_
  rintro e u' w'' ⟨rfl, rfl, rfl⟩
  have hb2 := (blk_set hb 0 (.bool true)).trans rfl
  have hc2 : (w1.setCell ⟨w.heap.size, 0, none⟩ (.bool true)).cell? ⟨w.heap.size, 0, none⟩ = some (.bool true) := (cell_of_row _ _ 0 _ _ _ hb2).trans rfl
  simp [Leaves, settle, results, Tryz.results21, go_sem, hc2]
  exact ⟨w1, hR, hb, rfl⟩
end Go.Proofs.YtammjbmfiakbnaaGreatDoor
