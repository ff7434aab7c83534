/-
  The row of FnRequest: whatever the request, true, and each argument reads as before; the listed variables read as listed where the call begins.
-/
import Derived.Test.YtammjbmfiakbnaaGreatDoorP
import Derived.Test.YtammjbmfiakbnaaGreatDoorRow0
import Derived.ProofKit
import Derived.LaidMore
import Derived.OpenShut
import Derived.Stop.Joined
import Derived.Carry
namespace Go.Proofs.YtammjbmfiakbnaaGreatDoor
set_option maxHeartbeats 2000000
set_option maxRecDepth 100000
set_option linter.unusedSimpArgs false
set_option linter.unusedVariables false
open Go.ChangeShapes Go.WideShapes Go.ChangeAt Go.RowKit
theorem own : ownKnob Tryz.prog.godebug = none := by kernel_rfl
theorem door_met (os : Os) (args : Array Value) : laidMetH Tryz.prog Rows.fnRequestRow.laid ((World.doorLaid Tryz.prog 226 os).forCall (fun _ _ => 0) ⟨#[], args, []⟩).memory :=
  laidMetH_of_parts3 (fuel := 8) (laidMet_of_run' 8 (by kernel_rfl) (by kernel_rfl)) (by kernel_rfl) (by kernel_rfl)
theorem lifted (os : Os) (started : os.Started) (H : Type) (enc : TypeId × Value → H) :
    ReturnsInHanded {} Tryz.checked os 3 .any (fun w args => (Rows.fnRequestSpec.pre enc Tryz.prog Tryz.f3 [] false w args ∧ laidMetH Tryz.prog Rows.fnRequestRow.laid w) ∧ sizedMet enc Tryz.prog Tryz.f3 (OpenSpec.ofChange Rows.fnRequestSpec) false w args)
      (Rows.fnRequestSpec.post enc Tryz.prog Tryz.f3 false true false false) := by
  refine returnsInHanded_of_change_and (C := Tryz.checked) (X := fun w _ => laidMetH Tryz.prog Rows.fnRequestRow.laid w) (fun _ _ _ hh h => h.of_heap hh) own started (by kernel_rfl) Tryz.func3
    (ChangeSpec.witness_shaped (enc := enc) (C := Tryz.checked) (os := os) (X := fun w _ => laidMetH Tryz.prog Rows.fnRequestRow.laid w) false (World.doorLaid Tryz.prog 226 os) #[.int .i64 0, .int .i64 0, .agg #[.int .i64 0, .slice none 0 0, .string ⟨#[]⟩, .slice none 0 0, .int .i64 0, .bool false, .slice none 0 0, .int .i64 0, .slice none 0 0, .int .i64 0, .slice none 0 0, .slice none 0 0, .int .i64 0, .slice none 0 0, .slice none 0 0]] 8 rfl (World.shaped_of_RefB (by kernel_rfl) (by kernel_rfl)) (by kernel_rfl) (by kernel_rfl) (by kernel_rfl) (door_met os _)) ?_
  intro W base args ds gs before hval0 hW _ _ _ _
  have hval : ∀ (j : Nat) t v, Tryz.f3.params[j]? = some t → args[j]? = some v → Value.okWide Tryz.prog W .any base t v := hval0
  have hW' := hW
  obtain ⟨p, q, hA0, hV, rfl, hfz, hnd⟩ := hW
  have hA : DataW.TrodAll enc Tryz.prog W 0 (fun _ => true) true Tryz.f3.params.toList args.toList ds p := hA0
  rw [Tryz.params3] at hA hval
  obtain ⟨v0, vs0, d0, ds0, p0, q0, hargs, rfl, rfl, h0, r0⟩ := trodAll_cons hA
  obtain ⟨v1, vs1, d1, ds1, p1, q1, rfl, rfl, rfl, h1, r1⟩ := trodAll_cons r0
  obtain ⟨v2, vs2, d2, ds2, p2, q2, rfl, rfl, rfl, h2, r2⟩ := trodAll_cons r1
  obtain ⟨rfl, rfl, rfl⟩ := trodAll_nil r2
  obtain rfl : args = #[v0, v1, v2] := by cases args; simp_all
  obtain ⟨rfl, rfl⟩ := trodVars_none hV
  obtain ⟨a0, rfl, rfl, rfl, w0⟩ := open_int Tryz.underlying3 (hval 0 3 v0 rfl rfl) h0
  obtain ⟨a1, rfl, rfl, rfl, w1⟩ := open_int Tryz.underlying3 (hval 1 3 v1 rfl rfl) h1
  obtain ⟨cs, rfl, _⟩ := okWide_struct Tryz.underlying31 (hval 2 31 v2 rfl rfl)
  have k2 := h2
  have lt2 : ∀ x ∈ p2, x.block < W.heap.size := by obtain ⟨m, hm⟩ := k2; exact DataW.trod_lt m _ _ _ hm
  obtain ⟨r, hcs, hI⟩ : ∃ r : IR, cs = r.cells ∧ r.In W := by
    obtain ⟨fuel, hf⟩ := h2
    obtain ⟨r, hr, hI⟩ := req_open hf
    exact ⟨r, Array.toList_inj.1 hr, hI⟩
  subst hcs
  clear hA0 hval0
  refine (law_any W a0 a1 r hI).mono fun e W' ⟨he, bel⟩ => ?_
  subst he
  exact ⟨_, rfl, _, _, _, [], _, [], hW', trodAll_mk1 (shut_bool Tryz.underlying4 _), trodAll_cons_mk (shut_int Tryz.underlying3 w0) (trodAll_cons_mk (shut_int Tryz.underlying3 w1) (trodAll_mk1 (Below.trod fact_out (by kernel_rfl) (of_decide_eq_true (by kernel_rfl)) k2 bel lt2))), rfl, bel.frame _, fun h => by cases h⟩
theorem row_holds : Rows.FnRequestSaid :=
  OpenClaim.holds_of_wide 3 Tryz.f3 rfl rfl rfl rfl rfl rfl rfl ⟨rfl, rfl, rfl, rfl, rfl⟩ rfl rfl rfl rfl rfl fact_name Tryz.func3 row_facts
    (of_decide_eq_true (by kernel_rfl)) (by unfold Func.isWrapper; first | (rw [if_pos (by decide +kernel)]; kernel_rfl) | (rw [if_neg (by decide +kernel)]; exact ⟨rfl, rfl⟩))
    (fun os started H enc _ => lifted os started H enc)
end Go.Proofs.YtammjbmfiakbnaaGreatDoor
