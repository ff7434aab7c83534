/-
  gocql.Marshal of a small integer: from the bottom. gocql.marshalSmallInt at an int16. gocql.Marshal at a small integer. impl.info of a small integer's type. impl.given of a small integer. impl.Marshal at a small integer. impl.Marshal at a small integer; works: the two bytes are there. From what is read at a type to the rows that lie in memory. The request that a call is given, out of what its reading says. FnRequest: whatever the request, the law answers true.
-/
import Derived.Test.YtammjbmfiakbnaaGreatDoorB
import Derived.Test.YtammjbmfiakbnaaGreatDoorPFnRequestx0
import Derived.Stop.Asserts
import Derived.Test.YtammjbmfiakbnaaGreatDoorT
import Derived.Test.YtammjbmfiakbnaaGreatDoorK
import Derived.Test.YtammjbmfiakbnaaGreatDoorY
import Derived.Deep.Slices
import Derived.Test.YtammjbmfiakbnaaGreatDoorG4
import Derived.Test.YtammjbmfiakbnaaGreatDoorC
import Derived.Test.YtammjbmfiakbnaaGreatDoorA7
import Derived.Test.YtammjbmfiakbnaaGreatDoorT2
import Derived.MapKept
namespace Go.Proofs.YtammjbmfiakbnaaGreatDoor
set_option maxHeartbeats 2000000
set_option maxRecDepth 100000
set_option linter.unusedSimpArgs false
set_option linter.unusedVariables false
open Go.RowKit Go.Proofs.YtammjbmfiakbnaaGreatDoorW.PrintWords Go.Proofs.YtammjbmfiakbnaaGreatDoorW.PrintLast Go.Proofs.YtammjbmfiakbnaaGreatDoorW.PrintMore
open Go.Proofs.YtammjbmfiakbnaaGreatDoor.PFnRequest
theorem make2 (w : World) : (Instr.makeSlice 23 (.int .i64 2) (.int .i64 2)).run Tryz.prog w = .ok (.slice (some ⟨w.heap.size, 0, none⟩) 2 2) (w.alloc (.cells #[.int .u8 0, .int .u8 0] 5)) := by
  obtain ⟨i0, hi, hz0, hz1, hz2⟩ := info_parts info5
  have h := run_make w 23 5 _ _ Tryz.underlying23 hi hz0 .i64 .i64 2 2 (by omega) (by omega) (by rw [hz2]; omega) (by omega)
  rw [hz1] at h
  have e : madeCells (Value.int .u8 0).cells (Int.toNat 2 * 1) = #[.int .u8 0, .int .u8 0] := by
    simp only [madeCells, Value.cells]
    apply Array.ext (by simp)
    intro i h1 h2
    simp at h1 h2
    rcases i with _ | _ | i
    · simp
    · simp
    · omega
  rw [e] at h
  exact h
theorem native_any (w : World) : Calls Tryz.prog 54 #[.int .u8 4, .int .i64 19, .string ⟨#[]⟩] w fun e w' => e = .returned (.agg #[.int .u8 4, .int .i64 19, .string ⟨#[]⟩]) ∧ Below w.heap.size w w' := by
  go_enter Tryz.func54, Tryz.ntmps54
  go_wp2
  refine bodyPost_ret (v := .agg #[.int .u8 4, .int .i64 19, .string ⟨#[]⟩]) ?_ rfl ⟨rfl, below_alloc (Below.refl _ _) _⟩
  simp [results, Tryz.results54, go_sem]
theorem encShort_258 (w : World) : Calls Tryz.prog 90 #[.int .i16 258] w fun e w' => e = .returned (.slice (some ⟨w.heap.size, 0, none⟩) 2 2) ∧ Below w.heap.size w w' ∧ w'.heap[w.heap.size]? = some (.cells #[.int .u8 1, .int .u8 2] 5 (0, 0)) := by
  have hm := make2
  go_enter Tryz.func90, Tryz.ntmps90
  go_wp2
  go_ret
  exact ⟨rfl, below_alloc (Below.refl _ _) _, heap_alloc_new w _⟩
theorem as140_162 (v : Value) (w : World) : (Instr.typeAssert (.iface 140 v) 20 162 true).run Tryz.prog w = .ok (.tuple #[.nilIface, .bool false]) w := run_typeAssert_lacksB Tryz.underlying162 (by kernel_rfl) (by kernel_rfl) v 20 w
theorem as140_214 (v : Value) (w : World) : (Instr.typeAssert (.iface 140 v) 20 214 true).run Tryz.prog w = .ok (.tuple #[.agg #[], .bool false]) w := by kernel_rfl
theorem as140_140 (v : Value) (w : World) : (Instr.typeAssert (.iface 140 v) 20 140 true).run Tryz.prog w = .ok (.tuple #[v, .bool true]) w := by kernel_rfl
theorem small_258 (w : World) (i : Value) : Calls Tryz.prog 62 #[i, .iface 140 (.int .i16 258)] w fun e w' => ∃ A, e = .returned (.tuple #[.slice (some ⟨A, 0, none⟩) 2 2, .nilIface]) ∧ w.heap.size ≤ A ∧ Below w.heap.size w w' ∧ w'.heap[A]? = some (.cells #[.int .u8 1, .int .u8 2] 5 (0, 0)) := by
  have a1 := as140_162
  have a2 := as140_214
  have a3 := as140_140
  go_enter Tryz.func62, Tryz.ntmps62
  go_wp2_with fail
  refine (encShort_258 _).mono ?_
  rintro e w1 ⟨rfl, hb, hk⟩
  go_wp2
  go_ret2
  exact ⟨_, rfl, Nat.le_refl _, hb, hk⟩
abbrev nat19 : Value := .agg #[.int .u8 4, .int .i64 19, .string ⟨#[]⟩]
theorem m270 (w : World) : (method 584 127 nat19 "Version").run Tryz.prog w = .ok (270, nat19) w := by kernel_rfl
theorem m269 (w : World) : (method 584 127 nat19 "Type").run Tryz.prog w = .ok (269, nat19) w := by kernel_rfl
theorem version_19 (w : World) : Calls Tryz.prog 270 #[nat19] w fun e w' => e = .returned (.int .u8 4) ∧ Below w.heap.size w w' := by
  go_enter Tryz.func270, Tryz.ntmps270
  go_wp2
  go_ret
  exact ⟨rfl, below_alloc (Below.refl _ _) _⟩
theorem type_19 (w : World) : Calls Tryz.prog 269 #[nat19] w fun e w' => e = .returned (.int .i64 19) ∧ Below w.heap.size w w' := by
  go_enter Tryz.func269, Tryz.ntmps269
  go_wp2
  go_ret
  exact ⟨rfl, below_alloc (Below.refl _ _) _⟩
theorem marshal_258 (w : World) : Calls Tryz.prog 39 #[.iface 127 (.agg #[.int .u8 4, .int .i64 19, .string ⟨#[]⟩]), .iface 140 (.int .i16 258)] w fun e w' => ∃ A, e = .returned (.tuple #[.slice (some ⟨A, 0, none⟩) 2 2, .nilIface]) ∧ w.heap.size ≤ A ∧ Below w.heap.size w w' ∧ w'.heap[A]? = some (.cells #[.int .u8 1, .int .u8 2] 5 (0, 0)) := by
  have a1 := as140_162
  have m1 := m270
  have m2 := m269
  go_enter Tryz.func39, Tryz.ntmps39
  go_wp2_with fail
  refine (version_19 _).mono ?_
  rintro e w1 ⟨rfl, hb1⟩
  go_wp2_with fail
  refine (type_19 _).mono ?_
  rintro e w2 ⟨rfl, hb2⟩
  go_wp2_with fail
  refine (small_258 _ _).mono ?_
  rintro e w3 ⟨A, rfl, hA, hb3, hk⟩
  have hB2 := below_then hb1 hb1.size hb2
  have hB3 := below_then hB2 hB2.size hb3
  have hs := hB2.size
  go_wp2
  go_ret2
  exact ⟨A, rfl, by omega, hB3, hk⟩
abbrev typ19 : Value := .agg #[.int .i64 19, .slice none 0 0, .slice none 0 0]
theorem info_19 (w : World) : Calls Tryz.prog 37 #[typ19] w fun e w' => e = .returned (.tuple #[.iface 127 nat19, .bool true]) ∧ Below w.heap.size w w' := by
  go_enter Tryz.func37, Tryz.ntmps37
  go_wp2_with fail
  refine (native_any _).mono ?_
  rintro e w1 ⟨rfl, hb1⟩
  have hB1 := below_then (below_alloc (Below.refl w.heap.size w) (.cells #[.int .i64 19, .slice none 0 0, .slice none 0 0] 70)) (by simp) hb1
  have HB2 := Lib.hid (below_alloc hB1 (.cells #[.int .u8 4, .int .i64 19, .string ⟨#[]⟩] 127))
  have HN := Lib.hid (heap_alloc_new w1 (.cells #[.int .u8 4, .int .i64 19, .string ⟨#[]⟩] 127))
  have hk := blk_below (heap_alloc_new w (.cells #[.int .i64 19, .slice none 0 0, .slice none 0 0] 70)) hb1
  have hk2 := blk_alloc hk (.cells #[.int .u8 4, .int .i64 19, .string ⟨#[]⟩] 127)
  have HK := Lib.hid hk2
  have k0' := (cell_of_row _ _ 0 _ _ _ hk2).trans rfl
  have k0 := (cell_of_row _ _ 0 _ _ _ hk).trans rfl
  have k1 := (cell_of_row _ _ 1 _ _ _ hk2).trans rfl
  have k2 := (cell_of_row _ _ 2 _ _ _ hk2).trans rfl
  clear hk hk2 hb1 hB1
  go_wp2
  generalize hW : w1.alloc (.cells #[.int .u8 4, .int .i64 19, .string ⟨#[]⟩] 127) = W1 at *
  go_loopw [19] (fun v19 W => v19 = .int .i64 0 ∧ W = W1) (fun _ _ => 0)
  case atStart => exact ⟨rfl, rfl⟩
  case round =>
    obtain ⟨rfl, rfl⟩ := hrel
    go_upto_region 33 with (fail)
    refine start_ (n := 17) (S := fun w' => w'.cell? ⟨w1.heap.size, 0, none⟩ = some (.int .u8 4) ∧ w'.cell? ⟨w1.heap.size, 1, none⟩ = some (.int .i64 19) ∧ w'.cell? ⟨w1.heap.size, 2, none⟩ = some (.string ⟨#[]⟩) ∧ w'.cell? ⟨w.heap.size, 0, none⟩ = some (.int .i64 19)) (ds := []) #[false, false, false, false, false, false, false, false, false, false, false, false, false, false, false, false, false] (by kernel_rfl) rfl rfl ⟨(cell_of_row _ _ 0 _ _ _ (blk_drew HN.out)).trans rfl, (cell_of_row _ _ 1 _ _ _ (blk_drew HN.out)).trans rfl, (cell_of_row _ _ 2 _ _ _ (blk_drew HN.out)).trans rfl, (cell_of_row _ _ 0 _ _ _ (blk_drew HK.out)).trans rfl⟩ (fun hHeld => ?_)
    refine e_o 2 ?_
    first | refine e_o 0 ?_ | refine e_t 0 hHeld ?_
    first | refine e_o 1 ?_ | refine e_t 1 hHeld ?_
    first | refine e_o 3 ?_ | refine e_t 3 hHeld ?_
    first | refine e_o 4 ?_ | refine e_t 4 hHeld ?_
    first | refine e_o 5 ?_ | refine e_t 5 hHeld ?_
    first | refine e_o 6 ?_ | refine e_t 6 hHeld ?_
    first | refine e_o 7 ?_ | refine e_t 7 hHeld ?_
    first | refine e_o 8 ?_ | refine e_t 8 hHeld ?_
    first | refine e_o 9 ?_ | refine e_t 9 hHeld ?_
    first | refine e_o 10 ?_ | refine e_t 10 hHeld ?_
    first | refine e_o 11 ?_ | refine e_t 11 hHeld ?_
    first | refine e_o 12 ?_ | refine e_t 12 hHeld ?_
    first | refine e_o 13 ?_ | refine e_t 13 hHeld ?_
    first | refine e_o 14 ?_ | refine e_t 14 hHeld ?_
    first | refine e_o 15 ?_ | refine e_t 15 hHeld ?_
    first | refine e_o 16 ?_ | refine e_t 16 hHeld ?_
    refine done_ (by kernel_rfl) ?_
    simp only [Exit.then]
    refine (‹∀ (a : Act) (w : World), Code.wp Tryz.prog _ _ a w → _›) _ _ ?_
    go_wp2
    go_ret2
    exact ⟨rfl, HB2.out.drew⟩
abbrev c70 : Array Value := #[.int .i64 19, .slice none 0 0, .slice none 0 0]
abbrev c74 : Array Value := #[.bool false, .int .i64 258, .float .f64 0, .string ⟨#[]⟩, .slice none 0 0, .int .i64 0, .int .i64 0, .int .i64 0, .int .i64 0, .slice none 0 0, .slice none 0 0]
theorem alloc_new2 (w : World) (o o' : Obj) : ((w.alloc o).alloc o').heap[w.heap.size + 1]? = some o' := by
  have h := heap_alloc_new (w.alloc o) o'
  simpa using h
theorem given_258 (w : World) : Calls Tryz.prog 38 #[.agg c70, .agg c74] w fun e w' => e = .returned (.tuple #[.iface 140 (.int .i16 258), .bool true]) ∧ Below w.heap.size w w' := by
  have HB := Lib.hid (below_alloc (below_alloc (Below.refl w.heap.size w) (.cells c70 70)) (.cells c74 74))
  have HN1 := Lib.hid (blk_alloc (heap_alloc_new w (.cells c70 70)) (.cells c74 74))
  have HN2 := Lib.hid (alloc_new2 w (.cells c70 70) (.cells c74 74))
  have k0 := (cell_of_row _ _ 0 _ _ _ HN1.out).trans rfl
  have k1 := (cell_of_row _ _ 0 _ _ _ HN2.out).trans rfl
  have e1 : IntKind.i16.wrap 258 = 258 := by decide
  have e2 : wrap64 258 = 258 := by kernel_rfl
  go_enter Tryz.func38, Tryz.ntmps38
  generalize hW : (w.alloc (.cells c70 70)).alloc (.cells c74 74) = W1 at *
  go_upto_region 14 with (fail)
  refine start_ (n := 13) (S := fun w' => w'.cell? ⟨w.heap.size + 1, 1, none⟩ = some (.int .i64 258)) (ds := []) #[false, false, false, false, false, false, false, false, false, false, false, false, false] (by kernel_rfl) rfl rfl ((cell_of_row _ _ 1 _ _ _ (blk_drew HN2.out)).trans rfl) (fun hHeld => ?_)
  first | refine e_o 0 ?_ | refine e_t 0 hHeld ?_
  first | refine e_o 1 ?_ | refine e_t 1 hHeld ?_
  first | refine e_o 2 ?_ | refine e_t 2 hHeld ?_
  first | refine e_o 3 ?_ | refine e_t 3 hHeld ?_
  first | refine e_o 4 ?_ | refine e_t 4 hHeld ?_
  first | refine e_o 5 ?_ | refine e_t 5 hHeld ?_
  first | refine e_o 6 ?_ | refine e_t 6 hHeld ?_
  first | refine e_o 7 ?_ | refine e_t 7 hHeld ?_
  first | refine e_o 8 ?_ | refine e_t 8 hHeld ?_
  first | refine e_o 9 ?_ | refine e_t 9 hHeld ?_
  first | refine e_o 10 ?_ | refine e_t 10 hHeld ?_
  first | refine e_o 11 ?_ | refine e_t 11 hHeld ?_
  first | refine e_o 12 ?_ | refine e_t 12 hHeld ?_
  refine done_ (by kernel_rfl) ?_
  simp only [Exit.then]
  refine (‹∀ (a : Act) (w : World), Code.wp Tryz.prog _ _ a w → _›) _ _ ?_
  go_wp2
  go_ret2
  refine ⟨?_, HB.out.drew⟩
  simp [e1, e2]
theorem e_s {P : Program} {ops : Array Oper} {Q : Exit → Act → World → Prop} {S : World → Prop} {ds : List Nat} {fuel : Nat} {l l' : Array Bool} {oi : Oper} {a : Act} {w w1 : World} (k : Nat) (hS : S w1) (h : wpAnyLast P .any ops Q S ds fuel l' a w1) (hi : ops[k]? = some oi := by rfl) (hN : oi.dst = none := by rfl) (hl : l.setIfInBounds k true = l' := by (simp only [List.setIfInBounds_toArray, List.set_cons_zero, List.set_cons_succ]; rfl)) (hc : readyB .any ops l l' k = true := by kernel_rfl) (hd : k ∉ ds := by decide) (hw : Region.wanted oi (yielded ops a.tmps) = true := by rfl) (hrun : (execOp a.eval oi).run P w = .ok .skip w1 := by first | (go_simp; done) | (go_simp; rfl)) : wpAnyLast P .any ops Q S ds (fuel + 1) l a w :=
  one_ l' hi hN hc hd fun K hK => skip_ hw hN hrun (hK.out _ _ hS fun _ => h)
/-- What Marshal's own function leaves: the bytes, not null, well. -/
theorem marshal1_258 (w : World) (T V D N O : Nat) (hT : w.heap[T]? = some (.cells c70 70 (0, 0))) (hV : w.heap[V]? = some (.cells c74 74 (0, 0))) (hD : w.heap[D]? = some (.cells #[.slice none 0 0] 23 (0, 0))) (hN : w.heap[N]? = some (.cells #[.bool false] 4 (0, 0))) (hO : w.heap[O]? = some (.cells #[.bool false] 4 (0, 0))) (hDN : D ≠ N) (hDO : D ≠ O) (hNO : N ≠ O) :
    Calls Tryz.prog 36 #[.pointer (some ⟨T, 0, none⟩), .pointer (some ⟨V, 0, none⟩), .pointer (some ⟨D, 0, none⟩), .pointer (some ⟨N, 0, none⟩), .pointer (some ⟨O, 0, none⟩)] w fun e w' => e = .returned (.tuple #[]) ∧ ∃ w3 A, w.heap.size ≤ A ∧ Below w.heap.size w w3 ∧ w3.heap[A]? = some (.cells #[.int .u8 1, .int .u8 2] 5 (0, 0)) ∧
      w' = ((w3.setCell ⟨D, 0, none⟩ (.slice (some ⟨A, 0, none⟩) 2 2)).setCell ⟨N, 0, none⟩ (.bool false)).setCell ⟨O, 0, none⟩ (.bool true) := by
  have HT := Lib.hid hT
  have HV := Lib.hid hV
  have HD := Lib.hid hD
  have HN := Lib.hid hN
  have HO := Lib.hid hO
  have k0 := (cell_of_row _ _ 0 _ _ _ hT).trans rfl
  have k1 := (cell_of_row _ _ 1 _ _ _ hT).trans rfl
  have k2 := (cell_of_row _ _ 2 _ _ _ hT).trans rfl
  clear hT hV hD hN hO
  go_enter Tryz.func36, Tryz.ntmps36
  go_wp2_with fail
  refine (info_19 _).mono ?_
  rintro e w1 ⟨rfl, hb1⟩
  have HB1 := Lib.hid hb1
  have HT1 := Lib.hid (blk_below HT.out hb1)
  have HV1 := Lib.hid (blk_below HV.out hb1)
  clear k0 k1 k2 hb1
  have k0 := (cell_of_row _ _ 0 _ _ _ HT1.out).trans rfl
  have k1 := (cell_of_row _ _ 1 _ _ _ HT1.out).trans rfl
  have k2 := (cell_of_row _ _ 2 _ _ _ HT1.out).trans rfl
  have v0 := (cell_of_row _ _ 0 _ _ _ HV1.out).trans rfl
  have v1 := (cell_of_row _ _ 1 _ _ _ HV1.out).trans rfl
  have v2 := (cell_of_row _ _ 2 _ _ _ HV1.out).trans rfl
  have v3 := (cell_of_row _ _ 3 _ _ _ HV1.out).trans rfl
  have v4 := (cell_of_row _ _ 4 _ _ _ HV1.out).trans rfl
  have v5 := (cell_of_row _ _ 5 _ _ _ HV1.out).trans rfl
  have v6 := (cell_of_row _ _ 6 _ _ _ HV1.out).trans rfl
  have v7 := (cell_of_row _ _ 7 _ _ _ HV1.out).trans rfl
  have v8 := (cell_of_row _ _ 8 _ _ _ HV1.out).trans rfl
  have v9 := (cell_of_row _ _ 9 _ _ _ HV1.out).trans rfl
  have v10 := (cell_of_row _ _ 10 _ _ _ HV1.out).trans rfl
  go_wp2_with fail
  refine (given_258 _).mono ?_
  rintro e w2 ⟨rfl, hb2⟩
  clear k0 k1 k2 v0 v1 v2 v3 v4 v5 v6 v7 v8 v9 v10
  have HB2 := Lib.hid (below_then HB1.out HB1.out.size hb2)
  clear hb2
  go_wp2_with fail
  refine (marshal_258 _).mono ?_
  rintro e w3 ⟨A, rfl, hA, hb3, hk⟩
  have HB3 := Lib.hid (below_then HB2.out HB2.out.size hb3)
  have hA2 : w.heap.size ≤ A := Nat.le_trans HB2.out.size hA
  have HA := Lib.hid hk
  have HD3 := Lib.hid (blk_below HD.out HB3.out)
  have HN3 := Lib.hid (blk_below HN.out HB3.out)
  have HO3 := Lib.hid (blk_below HO.out HB3.out)
  clear hb3 hk hA
  go_upto_region 5 with (fail)
  have cD : w3.cell? ⟨D, 0, none⟩ = some (.slice none 0 0) := (cell_of_row _ _ 0 _ _ _ HD3.out).trans rfl
  have cN : w3.cell? ⟨N, 0, none⟩ = some (.bool false) := (cell_of_row _ _ 0 _ _ _ HN3.out).trans rfl
  have cO : w3.cell? ⟨O, 0, none⟩ = some (.bool false) := (cell_of_row _ _ 0 _ _ _ HO3.out).trans rfl
  have fD : w3.frozen? ⟨D, 0, none⟩ = false := blk_froz HD3.out
  have fN : w3.frozen? ⟨N, 0, none⟩ = false := blk_froz HN3.out
  have fO : w3.frozen? ⟨O, 0, none⟩ = false := blk_froz HO3.out
  have hs : ∀ W, (binOp .eql 23 (.slice (some ⟨A, 0, none⟩) 2 2) (.slice none 0 0)).run Tryz.prog W = .ok (.bool false) W := fun W => by rfl
  refine start_ (n := 8) (S := fun _ => True) (ds := []) #[false, false, false, false, false, false, false, false] (by kernel_rfl) rfl rfl trivial (fun hHeld => ?_)
  refine e_o 0 ?_
  refine e_o 1 ?_
  refine e_o 2 ?_
  refine e_o 3 ?_
  refine e_o 4 ?_
  refine e_s 5 trivial ?_
  refine e_s 6 trivial ?_
  refine e_s 7 trivial ?_
  refine done_ (by kernel_rfl) ?_
  go_end0
  exact ⟨rfl, w3.drew, A, hA2, HB3.out.drew, blk_drew HA.out, rfl⟩
theorem new_at (w : World) (o : Obj) (n : Nat) (h : w.heap.size = n) : (w.alloc o).heap[n]? = some o ∧ (w.alloc o).heap.size = n + 1 := ⟨by rw [← h]; exact heap_alloc_new w o, by simp [h]⟩
theorem marshal20_258 (w : World) : Calls Tryz.prog 20 #[.agg c70, .agg c74] w fun e w' => ∃ A, e = .returned (.tuple #[.slice (some ⟨A, 0, none⟩) 2 2, .bool false, .bool true]) ∧ Below w.heap.size w w' ∧ w'.heap[A]? = some (.cells #[.int .u8 1, .int .u8 2] 5 (0, 0)) := by
  have hmf : ∀ (fn : Fn) (first cap : Array Value) (w : World), (Instr.makeFunc fn first cap).run Tryz.prog w = .ok (.func fn first cap) w := fun _ _ _ _ => rfl
  generalize hs : w.heap.size = n
  have hq := quietly_36 (R := fun w1 => Below n w w1 ∧ ∃ A, n + 6 ≤ A ∧ w1.heap[A]? = some (.cells #[.int .u8 1, .int .u8 2] 5 (0, 0)) ∧ w1.heap[n + 2]? = some (.cells #[.slice (some ⟨A, 0, none⟩) 2 2] 23 (0, 0)) ∧ w1.heap[n + 3]? = some (.cells #[.bool false] 4 (0, 0)) ∧ w1.heap[n + 4]? = some (.cells #[.bool true] 4 (0, 0)))
    (((((w.alloc (.cells c70 70)).alloc (.cells c74 74)).alloc (.cells #[.slice none 0 0] 23)).alloc (.cells #[.bool false] 4)).alloc (.cells #[.bool false] 4))
    #[.pointer (some ⟨n, 0, none⟩), .pointer (some ⟨n + 1, 0, none⟩), .pointer (some ⟨n + 2, 0, none⟩), .pointer (some ⟨n + 3, 0, none⟩), .pointer (some ⟨n + 4, 0, none⟩)] (by
      obtain ⟨b0, s0⟩ := new_at w (.cells c70 70) _ hs
      obtain ⟨b1, s1⟩ := new_at _ (.cells c74 74) _ s0
      obtain ⟨b2, s2⟩ := new_at _ (.cells #[.slice none 0 0] 23) _ s1
      obtain ⟨b3, s3⟩ := new_at _ (.cells #[.bool false] 4) _ s2
      obtain ⟨b4, s4⟩ := new_at _ (.cells #[.bool false] 4) _ s3
      obtain ⟨b5, s5⟩ := new_at _ (.cells #[.bool false] 4) _ s4
      have b0' := blk_alloc (blk_alloc (blk_alloc (blk_alloc (blk_alloc b0 (.cells c74 74)) (.cells #[.slice none 0 0] 23)) (.cells #[.bool false] 4)) (.cells #[.bool false] 4)) (.cells #[.bool false] 4)
      have b1' := blk_alloc (blk_alloc (blk_alloc (blk_alloc b1 (.cells #[.slice none 0 0] 23)) (.cells #[.bool false] 4)) (.cells #[.bool false] 4)) (.cells #[.bool false] 4)
      have b2' := blk_alloc (blk_alloc (blk_alloc b2 (.cells #[.bool false] 4)) (.cells #[.bool false] 4)) (.cells #[.bool false] 4)
      have b3' := blk_alloc (blk_alloc b3 (.cells #[.bool false] 4)) (.cells #[.bool false] 4)
      have b4' := blk_alloc b4 (.cells #[.bool false] 4)
      have hbe : Below w.heap.size w ((((((w.alloc (.cells c70 70)).alloc (.cells c74 74)).alloc (.cells #[.slice none 0 0] 23)).alloc (.cells #[.bool false] 4)).alloc (.cells #[.bool false] 4)).alloc (.cells #[.bool false] 4)) :=
        below_alloc (below_alloc (below_alloc (below_alloc (below_alloc (below_alloc (Below.refl _ _) _) _) _) _) _) _
      rw [hs] at hbe
      rw [s4]
      generalize ((((((w.alloc (.cells c70 70)).alloc (.cells c74 74)).alloc (.cells #[.slice none 0 0] 23)).alloc (.cells #[.bool false] 4)).alloc (.cells #[.bool false] 4)).alloc (.cells #[.bool false] 4)) = w6 at *
      refine (marshal1_258 w6 n (n + 1) (n + 2) (n + 3) (n + 4) b0' b1' b2' b3' b4' (by omega) (by omega) (by omega)).mono ?_
      rintro e w7 ⟨rfl, w3, A, hA, hb3, hk, rfl⟩
      have d5 := blk_below b5 hb3
      have d2 := blk_below b2' hb3
      have d3 := blk_below b3' hb3
      have d4 := blk_below b4' hb3
      have e2 := (blk_set d2 0 (.slice (some ⟨A, 0, none⟩) 2 2)).trans rfl
      have f5 := setL_far (B := n + 2) (by omega) [.slice (some ⟨A, 0, none⟩) 2 2] w3 0 d5
      have f3 := setL_far (B := n + 2) (by omega) [.slice (some ⟨A, 0, none⟩) 2 2] w3 0 d3
      have f4 := setL_far (B := n + 2) (by omega) [.slice (some ⟨A, 0, none⟩) 2 2] w3 0 d4
      have fA := setL_far (B := n + 2) (by omega) [.slice (some ⟨A, 0, none⟩) 2 2] w3 0 hk
      have hb4 := (below_then hbe (by omega) hb3).setCell (p := ⟨n + 2, 0, none⟩) (by simp) (.slice (some ⟨A, 0, none⟩) 2 2)
      clear d2 d3 d4 d5
      have e : setL w3 (n + 2) 0 [.slice (some ⟨A, 0, none⟩) 2 2] = w3.setCell ⟨n + 2, 0, none⟩ (.slice (some ⟨A, 0, none⟩) 2 2) := rfl
      rw [e] at f5 f3 f4 fA
      clear e hk hb3
      generalize w3.setCell ⟨n + 2, 0, none⟩ (.slice (some ⟨A, 0, none⟩) 2 2) = w4 at *
      have e3 := (blk_set f3 0 (.bool false)).trans rfl
      have g5 := setL_far (B := n + 3) (by omega) [.bool false] w4 0 f5
      have g2 := setL_far (B := n + 3) (by omega) [.bool false] w4 0 e2
      have g4 := setL_far (B := n + 3) (by omega) [.bool false] w4 0 f4
      have gA := setL_far (B := n + 3) (by omega) [.bool false] w4 0 fA
      have e : setL w4 (n + 3) 0 [.bool false] = w4.setCell ⟨n + 3, 0, none⟩ (.bool false) := rfl
      rw [e] at g5 g2 g4 gA
      have hb5 := hb4.setCell (p := ⟨n + 3, 0, none⟩) (by simp) (.bool false)
      clear e hb4
      generalize w4.setCell ⟨n + 3, 0, none⟩ (.bool false) = w5 at *
      exact ⟨rfl, setL_far (B := n + 4) (by omega) [.bool true] w5 0 g5, hb5.setCell (p := ⟨n + 4, 0, none⟩) (by simp) (.bool true), A, by omega, setL_far (B := n + 4) (by omega) [.bool true] w5 0 gA, setL_far (B := n + 4) (by omega) [.bool true] w5 0 g2, setL_far (B := n + 4) (by omega) [.bool true] w5 0 e3, (blk_set g4 0 (.bool true)).trans rfl⟩)
  have s5 : (((((w.alloc (.cells c70 70)).alloc (.cells c74 74)).alloc (.cells #[.slice none 0 0] 23)).alloc (.cells #[.bool false] 4)).alloc (.cells #[.bool false] 4)).heap.size = n + 5 := by simp [hs]
  rw [s5] at hq
  have Hq := Lib.hid hq
  clear hq s5
  subst hs
  go_enter Tryz.func20, Tryz.ntmps20
  go_wp2_with fail
  refine Hq.out.mono ?_
  rintro e w' ⟨rfl, w1, ⟨h1, A, hA, hkA, h2, h3, h4⟩, h6, rfl⟩
  have g2 := setL_far (B := w.heap.size + 5) (by omega) [.bool true] w1 0 h2
  have g3 := setL_far (B := w.heap.size + 5) (by omega) [.bool true] w1 0 h3
  have g4 := setL_far (B := w.heap.size + 5) (by omega) [.bool true] w1 0 h4
  have gA := setL_far (B := w.heap.size + 5) (by omega) [.bool true] w1 0 hkA
  have hb := h1.setCell (p := ⟨w.heap.size + 5, 0, none⟩) (by simp) (.bool true)
  have e : setL w1 (w.heap.size + 5) 0 [.bool true] = w1.setCell ⟨w.heap.size + 5, 0, none⟩ (.bool true) := rfl
  rw [e] at g2 g3 g4 gA
  clear e h1 hkA h2 h3 h4 h6 Hq
  generalize w1.setCell ⟨w.heap.size + 5, 0, none⟩ (.bool true) = w2 at *
  have HB := Lib.hid hb
  have HA := Lib.hid gA
  have H2 := Lib.hid g2
  have H3 := Lib.hid g3
  have H4 := Lib.hid g4
  have k4 : w2.cell? ⟨w.heap.size + 4, 0, none⟩ = some (.bool true) := (cell_of_row _ _ 0 _ _ _ g4).trans rfl
  clear hb gA g2 g3 g4
  go_upto_region 4 with (fail)
  have k2 : w2.cell? ⟨w.heap.size + 2, 0, none⟩ = some (.slice (some ⟨A, 0, none⟩) 2 2) := (cell_of_row _ _ 0 _ _ _ H2.out).trans rfl
  have k3 : w2.cell? ⟨w.heap.size + 3, 0, none⟩ = some (.bool false) := (cell_of_row _ _ 0 _ _ _ H3.out).trans rfl
  have f2 : w2.frozen? ⟨w.heap.size + 2, 0, none⟩ = false := blk_froz H2.out
  have f3 : w2.frozen? ⟨w.heap.size + 3, 0, none⟩ = false := blk_froz H3.out
  have f4 : w2.frozen? ⟨w.heap.size + 4, 0, none⟩ = false := blk_froz H4.out
  refine start_ (n := 5) (S := fun w' => w'.cell? ⟨w.heap.size + 2, 0, none⟩ = some (.slice (some ⟨A, 0, none⟩) 2 2) ∧ w'.cell? ⟨w.heap.size + 3, 0, none⟩ = some (.bool false)) (ds := []) #[false, false, false, false, false] (by kernel_rfl) rfl rfl ⟨k2, k3⟩ (fun hHeld => ?_)
  refine e_t 0 hHeld ?_
  refine e_t 1 hHeld ?_
  have p2 := (blk_set H2.out 0 (.slice (some ⟨A, 0, none⟩) 2 2)).trans rfl
  have p3 := setL_far (B := w.heap.size + 2) (by omega) [.slice (some ⟨A, 0, none⟩) 2 2] w2 0 H3.out
  have p4 := setL_far (B := w.heap.size + 2) (by omega) [.slice (some ⟨A, 0, none⟩) 2 2] w2 0 H4.out
  have pA := setL_far (B := w.heap.size + 2) (by omega) [.slice (some ⟨A, 0, none⟩) 2 2] w2 0 HA.out
  have pb := HB.out.setCell (p := ⟨w.heap.size + 2, 0, none⟩) (by simp) (.slice (some ⟨A, 0, none⟩) 2 2)
  have e : setL w2 (w.heap.size + 2) 0 [.slice (some ⟨A, 0, none⟩) 2 2] = w2.setCell ⟨w.heap.size + 2, 0, none⟩ (.slice (some ⟨A, 0, none⟩) 2 2) := rfl
  rw [e] at p3 p4 pA
  refine e_s 2 (w1 := (w2.setCell ⟨w.heap.size + 2, 0, none⟩ (.slice (some ⟨A, 0, none⟩) 2 2)).drew) ⟨(cell_of_row _ _ 0 _ _ _ p2).trans rfl, (cell_of_row _ _ 0 _ _ _ p3).trans rfl⟩ ?_
  clear e k2 k3 k4 f2 f3 f4
  generalize w2.setCell ⟨w.heap.size + 2, 0, none⟩ (.slice (some ⟨A, 0, none⟩) 2 2) = w3 at *
  have k3 : w3.cell? ⟨w.heap.size + 3, 0, none⟩ = some (.bool false) := (cell_of_row _ _ 0 _ _ _ p3).trans rfl
  have f3 : w3.frozen? ⟨w.heap.size + 3, 0, none⟩ = false := blk_froz p3
  have q3 := (blk_set p3 0 (.bool false)).trans rfl
  have q2 := setL_far (B := w.heap.size + 3) (by omega) [.bool false] w3 0 p2
  have q4 := setL_far (B := w.heap.size + 3) (by omega) [.bool false] w3 0 p4
  have qA := setL_far (B := w.heap.size + 3) (by omega) [.bool false] w3 0 pA
  have qb := pb.setCell (p := ⟨w.heap.size + 3, 0, none⟩) (by simp) (.bool false)
  have e : setL w3 (w.heap.size + 3) 0 [.bool false] = w3.setCell ⟨w.heap.size + 3, 0, none⟩ (.bool false) := rfl
  rw [e] at q2 q4 qA
  refine e_s 3 (w1 := (w3.setCell ⟨w.heap.size + 3, 0, none⟩ (.bool false)).drew) ⟨(cell_of_row _ _ 0 _ _ _ q2).trans rfl, (cell_of_row _ _ 0 _ _ _ q3).trans rfl⟩ ?_
  clear e k3 f3
  generalize w3.setCell ⟨w.heap.size + 3, 0, none⟩ (.bool false) = w4 at *
  have k4 : w4.cell? ⟨w.heap.size + 4, 0, none⟩ = some (.bool true) := (cell_of_row _ _ 0 _ _ _ q4).trans rfl
  have f4 : w4.frozen? ⟨w.heap.size + 4, 0, none⟩ = false := blk_froz q4
  have r4 := (blk_set q4 0 (.bool true)).trans rfl
  have r2 := setL_far (B := w.heap.size + 4) (by omega) [.bool true] w4 0 q2
  have r3 := setL_far (B := w.heap.size + 4) (by omega) [.bool true] w4 0 q3
  have rA := setL_far (B := w.heap.size + 4) (by omega) [.bool true] w4 0 qA
  have rb := qb.setCell (p := ⟨w.heap.size + 4, 0, none⟩) (by simp) (.bool true)
  have e : setL w4 (w.heap.size + 4) 0 [.bool true] = w4.setCell ⟨w.heap.size + 4, 0, none⟩ (.bool true) := rfl
  rw [e] at r2 r3 rA
  refine e_s 4 (w1 := (w4.setCell ⟨w.heap.size + 4, 0, none⟩ (.bool true)).drew) ⟨(cell_of_row _ _ 0 _ _ _ r2).trans rfl, (cell_of_row _ _ 0 _ _ _ r3).trans rfl⟩ ?_
  clear e k4 f4
  generalize w4.setCell ⟨w.heap.size + 4, 0, none⟩ (.bool true) = w5 at *
  refine done_ (by kernel_rfl) ?_
  simp only [Exit.then]
  refine (‹∀ (a : Act) (w : World), Code.wp Tryz.prog _ _ a w → _›) _ _ ?_
  have k2 : w5.cell? ⟨w.heap.size + 2, 0, none⟩ = some (.slice (some ⟨A, 0, none⟩) 2 2) := (cell_of_row _ _ 0 _ _ _ r2).trans rfl
  have k3 : w5.cell? ⟨w.heap.size + 3, 0, none⟩ = some (.bool false) := (cell_of_row _ _ 0 _ _ _ r3).trans rfl
  have k4 : w5.cell? ⟨w.heap.size + 4, 0, none⟩ = some (.bool true) := (cell_of_row _ _ 0 _ _ _ r4).trans rfl
  go_wp2
  refine bodyPost_ret (v := .tuple #[.slice (some ⟨A, 0, none⟩) 2 2, .bool false, .bool true]) ?_ rfl ⟨A, rfl, rb.drew, blk_drew rA⟩
  simp [results, Tryz.results20, go_sem, k2, k3, k4]
theorem works_any (w : World) : Calls Tryz.prog 7 #[] w fun e w' => e = .returned (.bool true) ∧ Below w.heap.size w w' := by
  go_enter Tryz.func7, Tryz.ntmps7
  go_wp2_with fail
  refine (marshal20_258 _).mono ?_
  rintro e w1 ⟨A, rfl, hb, hk⟩
  have hr : ReadsInt w1 .u8 (some ⟨A, 0, none⟩) 2 [1, 2] := ⟨rfl, by decide, fun _ => ⟨_, rfl, fun j hj => by
    match j, hj with
    | 0, _ => exact (cell_of_row _ _ 0 _ _ _ hk).trans rfl
    | 1, _ => exact (cell_of_row _ _ 1 _ _ _ hk).trans rfl⟩⟩
  have hc : (convert 23 9 (.slice (some ⟨A, 0, none⟩) 2 2)).run Tryz.prog w1 = .ok (.string ⟨#[1, 2]⟩) w1 := string_of_reads Tryz.underlying23 Tryz.underlying5 Tryz.underlying9 hr
  clear hr hk
  go_wp2
  go_ret
  exact ⟨rfl, hb⟩
section
variable {H : Type} {enc : TypeId × Value → H} {P : Program} {w : World} {base : Nat} {sp : Nat → Bool} {held : Bool} {α β : Type}
/-- What is read at type t is of the kind d. -/
def Opn (enc : TypeId × Value → H) (P : Program) (w : World) (base : Nat) (sp : Nat → Bool) (held : Bool) (t : TypeId) (d : Kd α) : Prop :=
  P.cellsOf t = d.sz ∧ ∀ (fuel : Nat) (cs : List Value) (x : DataW H × List MemPlace), DataW.trod enc P w base sp held fuel t cs = some x → ∃ y : α, d.K w y cs
theorem Opn.int {t : TypeId} {k : IntKind} (ht : P.underlying t = some (.int k)) (hs : P.cellsOf t = 1) : Opn enc P w base sp held t (Kd.int k) := ⟨hs, fun _ _ _ h => by
  obtain ⟨n, rfl, _⟩ := DataW.trod_int ht h
  exact ⟨n, rfl⟩⟩
theorem Opn.bool {t : TypeId} (ht : P.underlying t = some .bool) (hs : P.cellsOf t = 1) : Opn enc P w base sp held t Kd.bool := ⟨hs, fun _ _ _ h => by
  obtain ⟨n, rfl, _⟩ := DataW.trod_bool ht h
  exact ⟨n, rfl⟩⟩
theorem Opn.string {t : TypeId} (ht : P.underlying t = some .string) (hs : P.cellsOf t = 1) : Opn enc P w base sp held t Kd.string := ⟨hs, fun _ _ _ h => by
  obtain ⟨n, rfl, _⟩ := DataW.trod_string ht h
  exact ⟨n, rfl⟩⟩
theorem list_of {p : Nat → α → Prop} : ∀ {n : Nat}, (∀ i, i < n → ∃ x, p i x) → ∃ xs : List α, xs.length = n ∧ ∀ j x, xs[j]? = some x → p j x
  | 0, _ => ⟨[], rfl, fun j x h => by simp at h⟩
  | n + 1, h => by
    obtain ⟨xs, hl, hx⟩ := list_of (n := n) (p := p) (fun i hi => h i (Nat.lt_succ_of_lt hi))
    obtain ⟨y, hy⟩ := h n (Nat.lt_succ_self n)
    refine ⟨xs ++ [y], by simp [hl], fun j x hj => ?_⟩
    rcases Nat.lt_or_ge j xs.length with hlt | hge
    · rw [List.getElem?_append_left hlt] at hj
      exact hx j x hj
    · have hj2 := (List.getElem?_eq_some_iff.1 hj).1
      simp only [List.length_append, List.length_singleton] at hj2
      obtain rfl : j = n := by omega
      rw [List.getElem?_append_right hge] at hj
      simp [hl] at hj
      exact hj ▸ hy
theorem Opn.slice {t e : TypeId} {d : Kd α} (ht : P.underlying t = some (.slice e)) (hs : P.cellsOf t = 1) (he : Opn enc P w base sp held e d) : Opn enc P w base sp held t (Kd.slice e d) := ⟨hs, fun fuel cs x h => by
  rcases Go.Deep.open_slice ht h with ⟨rfl, _⟩ | ⟨a, len, cap, m, n, D, Pl, rfl, hb, hl, hm, hmm, _, hx⟩
  · exact ⟨[], none, 0, rfl, Nat.le_refl _, rfl, by simp, fun h0 => by simp at h0⟩
  · have hle : len ≤ m := by rw [hmm]; split <;> omega
    obtain ⟨ys, hyl, hy⟩ := list_of (p := fun i y => ∃ c, w.cells? base (a.add (i * d.sz)) d.sz = some c ∧ d.K w y c) (n := len) (fun i hi => by
      obtain ⟨c, h1, h2⟩ := hx i (by omega)
      rw [he.1] at h1
      obtain ⟨y, hy⟩ := he.2 _ _ _ h2
      exact ⟨y, c, h1, hy⟩)
    subst hyl
    refine ⟨ys, some a, cap, rfl, hl, rfl, by unfold maxLen at hm; omega, fun _ => ⟨a, rfl, fun j p hj => ?_⟩⟩
    obtain ⟨c, h1, h2⟩ := hy j p hj
    obtain ⟨_, hlen, hcell⟩ := World.cells?_some h1
    refine ⟨c, hlen, h2, fun i u hi => ?_⟩
    have hi2 := (List.getElem?_eq_some_iff.1 hi).1
    rw [← Go.Deep.add_add]
    exact (hcell i (by omega)).trans hi⟩
theorem Opn.iso {t : TypeId} {d : Kd α} (f : β → α) (g : α → β) (hfg : ∀ x, f (g x) = x) (h : Opn enc P w base sp held t d) : Opn enc P w base sp held t (Kd.iso d f) := ⟨h.1, fun _ _ _ hx => by
  obtain ⟨y, hy⟩ := h.2 _ _ _ hx
  exact ⟨g y, by show d.K w (f (g y)) _; rw [hfg]; exact hy⟩⟩
/-- The cells from off on are of the kind d. -/
def Flds (w : World) (cs : List Value) (off : Nat) (d : Kd α) : Prop := ∃ y : α, d.K w y ((cs.drop off).take d.sz)
theorem Flds.pair {cs : List Value} {off off' : Nat} {a : Kd α} {b : Kd β} (h1 : Flds w cs off a) (h2 : Flds w cs off' b) (ho : off' = off + a.sz) : Flds w cs off (Kd.pair a b) := by
  obtain ⟨y1, h1⟩ := h1
  obtain ⟨y2, h2⟩ := h2
  subst ho
  refine ⟨(y1, y2), _, _, ?_, h1, h2⟩
  show (cs.drop off).take (a.sz + b.sz) = _
  rw [List.take_add, List.drop_drop]
theorem Opn.struct {t : TypeId} {fs : Array Field} {d : Kd α} (ht : P.underlying t = some (.struct fs)) (hs : P.cellsOf t = d.sz)
    (h : ∀ cs : List Value, (∀ (i : Nat) (f : Field) (γ : Type) (e : Kd γ), fs[i]? = some f → Opn enc P w base sp held f.type e → Flds w cs f.offset e) → Flds w cs 0 d) : Opn enc P w base sp held t d := ⟨hs, fun fuel cs x hx => by
  obtain ⟨xs, n, rfl, rfl, hl, hsz, hf⟩ := DataW.trod_struct ht hx
  have := h cs (fun i f γ e hi he => by
    have h1 := hf i _ hi
    have hlt : i < xs.length := by
      have := (Array.getElem?_eq_some_iff.1 hi).1
      omega
    rw [List.getElem?_eq_getElem hlt] at h1
    have h2 := he.2 _ _ _ h1
    rw [he.1] at h2
    exact h2)
  obtain ⟨y, hy⟩ := this
  rw [List.drop_zero, List.take_of_length_le (by omega)] at hy
  exact ⟨y, hy⟩⟩
end
section
variable {H : Type} {enc : TypeId × Value → H} {w : World} {base : Nat} {sp : Nat → Bool} {held : Bool}
theorem o2 : Opn enc Tryz.prog w base sp held 2 (Kd.int .i64) := Opn.int Tryz.underlying2 (by kernel_rfl)
theorem o3 : Opn enc Tryz.prog w base sp held 3 (Kd.int .i64) := Opn.int Tryz.underlying3 (by kernel_rfl)
theorem o4 : Opn enc Tryz.prog w base sp held 4 Kd.bool := Opn.bool Tryz.underlying4 (by kernel_rfl)
theorem o5 : Opn enc Tryz.prog w base sp held 5 (Kd.int .u8) := Opn.int Tryz.underlying5 (by kernel_rfl)
theorem o9 : Opn enc Tryz.prog w base sp held 9 Kd.string := Opn.string Tryz.underlying9 (by kernel_rfl)
theorem o23 : Opn enc Tryz.prog w base sp held 23 (Kd.slice 5 (Kd.int .u8)) := Opn.slice Tryz.underlying23 (by kernel_rfl) o5
theorem o25 : Opn enc Tryz.prog w base sp held 25 (Kd.slice 2 (Kd.int .i64)) := Opn.slice Tryz.underlying25 (by kernel_rfl) o2
theorem o28 : Opn enc Tryz.prog w base sp held 28 (Kd.slice 9 Kd.string) := Opn.slice Tryz.underlying28 (by kernel_rfl) o9
theorem o53 : Opn enc Tryz.prog w base sp held 53 k53 := Opn.iso _ (fun p => ⟨p.1, p.2⟩) (fun _ => rfl) (Opn.struct Tryz.underlying53 (by kernel_rfl) fun cs hF => (hF 0 _ _ _ rfl o9).pair (hF 1 _ _ _ rfl o9) rfl)
theorem o93 : Opn enc Tryz.prog w base sp held 93 k93 := Opn.iso _ (fun p => ⟨p.1, p.2.1, p.2.2.1, p.2.2.2⟩) (fun _ => rfl) (Opn.struct Tryz.underlying93 (by kernel_rfl) fun cs hF => (hF 0 _ _ _ rfl o9).pair ((hF 1 _ _ _ rfl o4).pair ((hF 2 _ _ _ rfl o4).pair (hF 3 _ _ _ rfl o23) rfl) rfl) rfl)
theorem o24 : Opn enc Tryz.prog w base sp held 24 (Kd.slice 93 k93) := Opn.slice Tryz.underlying24 (by kernel_rfl) o93
theorem o56 : Opn enc Tryz.prog w base sp held 56 k56 := Opn.iso _ (fun p => ⟨p.1, p.2.1, p.2.2⟩) (fun _ => rfl) (Opn.struct Tryz.underlying56 (by kernel_rfl) fun cs hF => (hF 0 _ _ _ rfl o9).pair ((hF 1 _ _ _ rfl o23).pair (hF 2 _ _ _ rfl o24) rfl) rfl)
theorem o22 : Opn enc Tryz.prog w base sp held 22 (Kd.slice 53 k53) := Opn.slice Tryz.underlying22 (by kernel_rfl) o53
theorem o29 : Opn enc Tryz.prog w base sp held 29 (Kd.slice 56 k56) := Opn.slice Tryz.underlying29 (by kernel_rfl) o56
def kq := Kd.pair (Kd.int .i64) (Kd.pair Kd.bool (Kd.pair (Kd.slice 93 k93) (Kd.pair (Kd.int .i64) (Kd.pair (Kd.slice 5 (Kd.int .u8)) (Kd.pair (Kd.int .i64) (Kd.slice 2 (Kd.int .i64)))))))
theorem o27 : Opn enc Tryz.prog w base sp held 27 kq := Opn.struct Tryz.underlying27 (by kernel_rfl) fun cs hF => (hF 0 _ _ _ rfl o3).pair ((hF 1 _ _ _ rfl o4).pair ((hF 2 _ _ _ rfl o24).pair ((hF 3 _ _ _ rfl o3).pair ((hF 4 _ _ _ rfl o23).pair ((hF 5 _ _ _ rfl o3).pair (hF 6 _ _ _ rfl o25) rfl) rfl) rfl) rfl) rfl) rfl
def kr := Kd.pair (Kd.int .i64) (Kd.pair (Kd.slice 53 k53) (Kd.pair Kd.string (Kd.pair (Kd.slice 5 (Kd.int .u8)) (Kd.pair kq (Kd.pair (Kd.slice 9 Kd.string) (Kd.pair (Kd.int .i64) (Kd.pair (Kd.slice 56 k56) (Kd.slice 5 (Kd.int .u8)))))))))
theorem o31 : Opn enc Tryz.prog w base sp held 31 kr := Opn.struct Tryz.underlying31 (by kernel_rfl) fun cs hF => (hF 0 _ _ _ rfl o3).pair ((hF 1 _ _ _ rfl o22).pair ((hF 2 _ _ _ rfl o9).pair ((hF 3 _ _ _ rfl o23).pair ((hF 4 _ _ _ rfl o27).pair ((hF 5 _ _ _ rfl o28).pair ((hF 6 _ _ _ rfl o3).pair ((hF 7 _ _ _ rfl o29).pair (hF 8 _ _ _ rfl o23) rfl) rfl) rfl) rfl) rfl) rfl) rfl) rfl
/-- What reads as a request is one, laid in memory. -/
theorem req_open {fuel : Nat} {cs : List Value} {x : DataW H × List MemPlace} (h : DataW.trod enc Tryz.prog w base sp held fuel 31 cs = some x) : ∃ r : IR, cs = r.cells.toList ∧ r.In w := by
  obtain ⟨y, _, _, rfl, rfl, _, _, rfl, ⟨Ao, co, rfl, lo, ho⟩, _, _, rfl, rfl, _, _, rfl, ⟨Ai, ci, rfl, li, hi⟩, _, _, rfl, ⟨_, _, rfl, rfl, _, _, rfl, rfl, _, _, rfl, ⟨A, c, rfl, lv, hv⟩, _, _, rfl, rfl, _, _, rfl, ⟨A4, c4, rfl, l4, h4⟩, _, _, rfl, rfl, A6, c6, rfl, l6, h6⟩, _, _, rfl, ⟨Ae, ce, rfl, le, he⟩, _, _, rfl, rfl, _, _, rfl, ⟨As, cs, rfl, ls, hs⟩, Ad, cd, rfl, ld, hd⟩ := o31.2 _ _ _ h
  exact ⟨⟨_, Ao, co, _, _, Ai, ci, _, ⟨_, _, A, c, _, _, A4, c4, _, _, A6, c6, _⟩, Ae, ce, _, _, As, cs, _, Ad, cd, _⟩, rfl, ho, hi, ⟨hv, h4, h6⟩, he, hs, hd⟩
end
theorem law_any (w : World) (v s : Int) (r : IR) (hI : r.In w) : Calls Tryz.prog 3 #[.int .i64 v, .int .i64 s, .agg r.cells] w fun e w' => e = .returned (.bool true) ∧ Below w.heap.size w w' := by
  have HB0 := Lib.hid (below_alloc (Below.refl w.heap.size w) (.cells r.cells 31))
  have HK0 := Lib.hid (heap_alloc_new w (.cells r.cells 31))
  have HI0 := Lib.hid (hI.below_ HB0.out)
  have k0 := (cell_of_row _ _ 0 _ _ _ HK0.out).trans rfl
  have k1 := (cell_of_row _ _ 1 _ _ _ HK0.out).trans rfl
  have k2 := (cell_of_row _ _ 2 _ _ _ HK0.out).trans rfl
  have k3 := (cell_of_row _ _ 3 _ _ _ HK0.out).trans rfl
  have k4 := (cell_of_row _ _ 4 _ _ _ HK0.out).trans rfl
  have k5 := (cell_of_row _ _ 5 _ _ _ HK0.out).trans rfl
  have k6 := (cell_of_row _ _ 6 _ _ _ HK0.out).trans rfl
  have k7 := (cell_of_row _ _ 7 _ _ _ HK0.out).trans rfl
  have k8 := (cell_of_row _ _ 8 _ _ _ HK0.out).trans rfl
  have k9 := (cell_of_row _ _ 9 _ _ _ HK0.out).trans rfl
  have k10 := (cell_of_row _ _ 10 _ _ _ HK0.out).trans rfl
  have k11 := (cell_of_row _ _ 11 _ _ _ HK0.out).trans rfl
  have k12 := (cell_of_row _ _ 12 _ _ _ HK0.out).trans rfl
  have k13 := (cell_of_row _ _ 13 _ _ _ HK0.out).trans rfl
  have k14 := (cell_of_row _ _ 14 _ _ _ HK0.out).trans rfl
  clear hI
  go_enter Tryz.func3, Tryz.ntmps3
  go_wp2_with fail
  refine (zz4_any _ r HI0.out).mono ?_
  rintro e w1 ⟨b, rfl, hb1, hft⟩
  have HB1 := Lib.hid (below_then HB0.out HB0.out.size hb1)
  have HK1 := Lib.hid (blk_below HK0.out hb1)
  have HI1 := Lib.hid (HI0.out.below_ hb1)
  clear k0 k1 k2 k3 k4 k5 k6 k7 k8 k9 k10 k11 k12 k13 k14
  clear hb1 HI0 HB0 HK0
  cases b with
  | false =>
    go_wp2
    go_ret
    exact ⟨rfl, HB1.out⟩
  | true =>
  have HF := Lib.hid (hft rfl)
  clear hft
  have k0 := (cell_of_row _ _ 0 _ _ _ HK1.out).trans rfl
  have k1 := (cell_of_row _ _ 1 _ _ _ HK1.out).trans rfl
  have k2 := (cell_of_row _ _ 2 _ _ _ HK1.out).trans rfl
  have k3 := (cell_of_row _ _ 3 _ _ _ HK1.out).trans rfl
  have k4 := (cell_of_row _ _ 4 _ _ _ HK1.out).trans rfl
  have k5 := (cell_of_row _ _ 5 _ _ _ HK1.out).trans rfl
  have k6 := (cell_of_row _ _ 6 _ _ _ HK1.out).trans rfl
  have k7 := (cell_of_row _ _ 7 _ _ _ HK1.out).trans rfl
  have k8 := (cell_of_row _ _ 8 _ _ _ HK1.out).trans rfl
  have k9 := (cell_of_row _ _ 9 _ _ _ HK1.out).trans rfl
  have k10 := (cell_of_row _ _ 10 _ _ _ HK1.out).trans rfl
  have k11 := (cell_of_row _ _ 11 _ _ _ HK1.out).trans rfl
  have k12 := (cell_of_row _ _ 12 _ _ _ HK1.out).trans rfl
  have k13 := (cell_of_row _ _ 13 _ _ _ HK1.out).trans rfl
  have k14 := (cell_of_row _ _ 14 _ _ _ HK1.out).trans rfl
  go_wp2_with fail
  refine (request_any w1 r HI1.out HF.out.1.1 HF.out.2.2.2.1.1 HF.out.2.2.2.2.2.1.1 (fun x hx => (HF.out.2.2.2.2.2.1.2 x hx).2.2.1)).mono ?_
  rintro e w2 ⟨Ao, co, A, c, As, cs, rfl, hb2, hS, hle⟩
  clear k0 k1 k2 k3 k4 k5 k6 k7 k8 k9 k10 k11 k12 k13 k14
  have HB2 := Lib.hid (below_then HB1.out HB1.out.size hb2)
  have HK2 := Lib.hid (blk_below HK1.out hb2)
  have HI2 := Lib.hid (HI1.out.below_ hb2)
  have HS2 := Lib.hid hS
  clear hb2 HI1 HB1 HK1 hS
  go_upto_region 4 with (fail)
  obtain ⟨w3, hw3⟩ : ∃ w3, w3 = w2.alloc (.cells (r.sc Ao co A c As cs) 39) := ⟨_, rfl⟩
  have hb3 : Below w2.heap.size w2 w3 := by rw [hw3]; exact below_alloc (Below.refl _ _) _
  have HN3 : Hid (w3.heap[w2.heap.size]? = some (.cells (r.sc Ao co A c As cs) 39 (0, 0))) := Lib.hid (by rw [hw3]; exact heap_alloc_new w2 _)
  simp only [IR.sc] at hw3
  rw [← hw3]
  clear hw3
  have HB3 := Lib.hid (below_then HB2.out HB2.out.size hb3)
  have HK3 := Lib.hid (blk_below HK2.out hb3)
  have HI3 := Lib.hid (HI2.out.below_ hb3)
  have HS3 := Lib.hid (HS2.out.below_ hb3)
  clear hb3 HI2 HB2 HK2 HS2
  have k0 := (cell_of_row _ _ 0 _ _ _ HN3.out).trans rfl
  have k1 := (cell_of_row _ _ 1 _ _ _ HN3.out).trans rfl
  have k2 := (cell_of_row _ _ 2 _ _ _ HN3.out).trans rfl
  have k3 := (cell_of_row _ _ 3 _ _ _ HN3.out).trans rfl
  have k4 := (cell_of_row _ _ 4 _ _ _ HN3.out).trans rfl
  have k5 := (cell_of_row _ _ 5 _ _ _ HN3.out).trans rfl
  have k6 := (cell_of_row _ _ 6 _ _ _ HN3.out).trans rfl
  have k7 := (cell_of_row _ _ 7 _ _ _ HN3.out).trans rfl
  have k8 := (cell_of_row _ _ 8 _ _ _ HN3.out).trans rfl
  have k9 := (cell_of_row _ _ 9 _ _ _ HN3.out).trans rfl
  have k10 := (cell_of_row _ _ 10 _ _ _ HN3.out).trans rfl
  have k11 := (cell_of_row _ _ 11 _ _ _ HN3.out).trans rfl
  have k12 := (cell_of_row _ _ 12 _ _ _ HN3.out).trans rfl
  have k13 := (cell_of_row _ _ 13 _ _ _ HN3.out).trans rfl
  have k14 := (cell_of_row _ _ 14 _ _ _ HN3.out).trans rfl
  go_wp2_with fail
  refine (check_any w3 v s r Ao A As co c cs HS3.out hle HF.out).mono ?_
  rintro e w4 ⟨b, rfl, hb4, hP⟩
  clear k0 k1 k2 k3 k4 k5 k6 k7 k8 k9 k10 k11 k12 k13 k14
  have HB4 := Lib.hid (below_then HB3.out HB3.out.size hb4)
  have HK4 := Lib.hid (blk_below HK3.out hb4)
  have HN4 := Lib.hid (blk_below HN3.out hb4)
  have HI4 := Lib.hid (HI3.out.below_ hb4)
  have HS4 := Lib.hid (HS3.out.below_ hb4)
  clear hb4 HI3 HB3 HK3 HS3 HN3
  cases b with
  | false =>
    go_wp2_with fail
    refine (works_any w4).mono ?_
    rintro e w5 ⟨rfl, hb5⟩
    go_wp2
    go_ret
    exact ⟨rfl, below_then HB4.out HB4.out.size hb5⟩
  | true =>
  obtain ⟨hp, hr⟩ := hP rfl
  clear hP
  have Hr := Lib.hid hr
  have Hp := Lib.hid hp
  clear hp hr
  have k0 := (cell_of_row _ _ 0 _ _ _ HK4.out).trans rfl
  have k1 := (cell_of_row _ _ 1 _ _ _ HK4.out).trans rfl
  have k2 := (cell_of_row _ _ 2 _ _ _ HK4.out).trans rfl
  have k3 := (cell_of_row _ _ 3 _ _ _ HK4.out).trans rfl
  have k4 := (cell_of_row _ _ 4 _ _ _ HK4.out).trans rfl
  have k5 := (cell_of_row _ _ 5 _ _ _ HK4.out).trans rfl
  have k6 := (cell_of_row _ _ 6 _ _ _ HK4.out).trans rfl
  have k7 := (cell_of_row _ _ 7 _ _ _ HK4.out).trans rfl
  have k8 := (cell_of_row _ _ 8 _ _ _ HK4.out).trans rfl
  have k9 := (cell_of_row _ _ 9 _ _ _ HK4.out).trans rfl
  have k10 := (cell_of_row _ _ 10 _ _ _ HK4.out).trans rfl
  have k11 := (cell_of_row _ _ 11 _ _ _ HK4.out).trans rfl
  have k12 := (cell_of_row _ _ 12 _ _ _ HK4.out).trans rfl
  have k13 := (cell_of_row _ _ 13 _ _ _ HK4.out).trans rfl
  have k14 := (cell_of_row _ _ 14 _ _ _ HK4.out).trans rfl
  go_wp2_with fail
  refine (format_any w4 v s r Hp.out Hr.out HI4.out).mono ?_
  rintro e w5 ⟨vb, rfl, hb5, ho5⟩
  clear k0 k1 k2 k3 k4 k5 k6 k7 k8 k9 k10 k11 k12 k13 k14
  obtain ⟨A1, m1, c1, rfl⟩ := own_form ho5
  have HB5 := Lib.hid (below_then HB4.out HB4.out.size hb5)
  have HN5 := Lib.hid (blk_below HN4.out hb5)
  have HS5 := Lib.hid (HS4.out.below_ hb5)
  obtain rfl := own_len ho5
  have HR5 := Lib.hid (own_reads' ho5)
  clear hb5 HI4 HB4 HK4 HS4 HN4 ho5
  go_upto_region 7 with (fail)
  have hcv : ∀ w', Below w5.heap.size w5 w' → (convert 23 9 (.slice A1 (frame v r.op s r.body).length c1)).run Tryz.prog w' = .ok (.string (strOfNums (frame v r.op s r.body))) w' := fun w' hb => string_of_reads Tryz.underlying23 Tryz.underlying5 Tryz.underlying9 (HR5.out.below hb)
  have hbe : (strOfNums (frame v r.op s r.body) == strOfNums (frame v r.op s r.body)) = true := (Go.MapKept.bytes_beq _ _).2 rfl
  generalize hfr : strOfNums (frame v r.op s r.body) = fr at hcv hbe
  refine start_ (n := 15) (S := fun w' => Below w5.heap.size w5 w') (ds := []) #[false, false, false, false, false, false, false, false, false, false, false, false, false, false, false] (by kernel_rfl) rfl rfl (Below.refl _ _).drew (fun hHeld => ?_)
  refine e_o 0 ?_
  refine e_o 1 ?_
  refine e_o 2 ?_
  refine e_t 3 hHeld ?_ (hy := by intro w' hs; have h := hcv w' hs; go_simp; with_reducible rfl)
  refine e_o 4 ?_
  refine e_o 5 ?_
  refine e_t 6 hHeld ?_ (hy := by
      intro w' hs
      have hk := blk_below HN5.out hs
      have k0 := (cell_of_row _ _ 0 _ _ _ hk).trans rfl
      have k1 := (cell_of_row _ _ 1 _ _ _ hk).trans rfl
      have k2 := (cell_of_row _ _ 2 _ _ _ hk).trans rfl
      have k3 := (cell_of_row _ _ 3 _ _ _ hk).trans rfl
      have k4 := (cell_of_row _ _ 4 _ _ _ hk).trans rfl
      have k5 := (cell_of_row _ _ 5 _ _ _ hk).trans rfl
      have k6 := (cell_of_row _ _ 6 _ _ _ hk).trans rfl
      have k7 := (cell_of_row _ _ 7 _ _ _ hk).trans rfl
      have k8 := (cell_of_row _ _ 8 _ _ _ hk).trans rfl
      have k9 := (cell_of_row _ _ 9 _ _ _ hk).trans rfl
      have k10 := (cell_of_row _ _ 10 _ _ _ hk).trans rfl
      have k11 := (cell_of_row _ _ 11 _ _ _ hk).trans rfl
      have k12 := (cell_of_row _ _ 12 _ _ _ hk).trans rfl
      have k13 := (cell_of_row _ _ 13 _ _ _ hk).trans rfl
      have k14 := (cell_of_row _ _ 14 _ _ _ hk).trans rfl
      go_simp
      with_reducible rfl)
  refine one_ (i := 7) (N := some 35) #[true, true, true, true, true, true, true, true, false, false, false, false, false, false, false] rfl rfl (by kernel_rfl) (by decide) (fun K hK => ?_)
  refine goes_ Tryz.func9 (by kernel_rfl) rfl #[.int .i64 v, .int .i64 s, .agg (r.sc Ao co A c As cs)] (by rfl) rfl rfl (by simp only [List.map_toArray, List.map_cons, List.map_nil]; rfl) ?_
  with_reducible refine (sasked_any _ v s r Ao A As co c cs Hp.out Hr.out (HS5.out.below_ (Below.refl _ _).drew)).mono ?_
  rintro e w6 ⟨vc, rfl, hb6, ho6⟩
  have HB6 := Lib.hid (below_then (Below.refl w5.heap.size w5).drew (Nat.le_refl _) hb6)
  obtain ⟨A2, m2, c2, rfl⟩ := own_form ho6
  obtain rfl := own_len ho6
  have hr6 := own_reads' ho6
  have hcv6 : (convert 23 9 (.slice A2 (frame v r.op s r.body).length c2)).run Tryz.prog w6 = .ok (.string fr) w6 := by rw [← hfr]; exact string_of_reads Tryz.underlying23 Tryz.underlying5 Tryz.underlying9 hr6
  clear hb6 ho6 hr6
  refine ⟨_, rfl, ?_⟩
  refine hK.out _ _ HB6.out (fun hHeld => ?_)
  clear hK K
  refine norm_ (a' := ?_) ?_ ?_
  rotate_left
  · show Act.put _ (some 35) _ = _
    simp only [Act.put, List.setIfInBounds_toArray, List.set_cons_zero, List.set_cons_succ, i64_w, i32_w]
    rfl
  refine one_ (i := 8) (N := some 36) #[true, true, true, true, true, true, true, true, true, false, false, false, false, false, false] rfl rfl (by kernel_rfl) (by decide) (fun K hK => ?_)
  refine value_ (w1 := ?_) (v := ?_) (by rfl) rfl ?_ ?_
  rotate_left 2
  · go_simp
    constructor
    · rfl
    · rfl
  refine hK.out _ _ HB6.out (fun hHeld => ?_)
  clear hK K
  refine norm_ (a' := ?_) ?_ ?_
  rotate_left
  · show Act.put _ (some 36) _ = _
    simp only [Act.put, List.setIfInBounds_toArray, List.set_cons_zero, List.set_cons_succ, i64_w, i32_w]
    rfl
  refine e_o 9 ?_
  refine e_o 10 ?_
  refine e_o 11 ?_
  refine one_ (i := 12) (N := some 40) #[true, true, true, true, true, true, true, true, true, true, true, true, true, false, false] rfl rfl (by kernel_rfl) (by decide) (fun K hK => ?_)
  refine goes_ Tryz.func7 (by kernel_rfl) rfl #[] (by rfl) rfl rfl (by simp) ?_
  with_reducible refine (works_any _).mono ?_
  rintro e w7 ⟨rfl, hb7⟩
  have HB7 := Lib.hid (below_then HB6.out HB6.out.size hb7)
  clear hb7
  refine ⟨_, rfl, ?_⟩
  refine hK.out _ _ HB7.out (fun hHeld => ?_)
  clear hK K
  refine norm_ (a' := ?_) ?_ ?_
  rotate_left
  · show Act.put _ (some 40) _ = _
    simp only [Act.put, List.setIfInBounds_toArray, List.set_cons_zero, List.set_cons_succ, i64_w, i32_w]
    rfl
  refine e_o 13 ?_
  refine e_o 14 ?_
  refine done_ (by kernel_rfl) ?_
  simp only [Exit.then]
  refine (‹∀ (a : Act) (w : World), Code.wp Tryz.prog _ _ a w → _›) _ _ ?_
  go_wp2
  go_ret
  exact ⟨rfl, below_then HB5.out HB5.out.size HB7.out⟩
end Go.Proofs.YtammjbmfiakbnaaGreatDoor
