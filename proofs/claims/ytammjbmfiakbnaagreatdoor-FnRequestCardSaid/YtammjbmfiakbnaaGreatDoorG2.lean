/-
  The reference's check of a request: what it has; what its query has. The reference's check of a request: by the kind.
-/
import Derived.Test.YtammjbmfiakbnaaGreatDoorG
namespace Go.Proofs.YtammjbmfiakbnaaGreatDoor
set_option maxHeartbeats 2000000
set_option maxRecDepth 100000
set_option linter.unusedSimpArgs false
set_option linter.unusedVariables false
open Go.RowKit Go.Proofs.YtammjbmfiakbnaaGreatDoorW.PrintWords Go.Proofs.YtammjbmfiakbnaaGreatDoorW.PrintLast Go.Proofs.YtammjbmfiakbnaaGreatDoorW.PrintMore
open Go.Proofs.YtammjbmfiakbnaaGreatDoor.PFnRequest
/-- The value that is asked what may be there. -/
abbrev may_ (Pp : Nat) : Value := .func (.func 16) #[] #[.pointer (some ⟨Pp, 0, none⟩)]
def I7 (v s : Int) (K Pp : Nat) (a : Act) : Prop := I6 v s K a ∧ a.tmps.getD 8 undef = may_ Pp
/-- What it is told of. -/
def Has (w : World) (Pp : Nat) : Prop := ∃ B, w.cell? ⟨Pp, 0, none⟩ = some (.slice (some ⟨B, 0, none⟩) 6 6) ∧ ∀ i : Nat, i < 6 → ∃ b, w.cell? ⟨B, i, none⟩ = some (.bool b)
theorem Has.below_ {w w1 : World} {Pp : Nat} (h : Has w Pp) (hb : Below w.heap.size w w1) : Has w1 Pp := by
  obtain ⟨B, h1, h2⟩ := h
  exact ⟨B, pw_cell_below hb h1, fun i hi => by obtain ⟨b, h⟩ := h2 i hi; exact ⟨b, pw_cell_below hb h⟩⟩
theorem six {w : World} {B : Nat} {b0 b1 b2 b3 b4 b5 : Bool} (h : w.heap[B]? = some (.cells #[.bool b0, .bool b1, .bool b2, .bool b3, .bool b4, .bool b5] 4 (0, 0))) : ∀ i : Nat, i < 6 → ∃ b, w.cell? ⟨B, i, none⟩ = some (.bool b) := by
  intro i hi
  rcases i with _ | _ | _ | _ | _ | _ | i
  · exact ⟨_, (cell_of_row _ _ 0 _ _ _ h).trans rfl⟩
  · exact ⟨_, (cell_of_row _ _ 1 _ _ _ h).trans rfl⟩
  · exact ⟨_, (cell_of_row _ _ 2 _ _ _ h).trans rfl⟩
  · exact ⟨_, (cell_of_row _ _ 3 _ _ _ h).trans rfl⟩
  · exact ⟨_, (cell_of_row _ _ 4 _ _ _ h).trans rfl⟩
  · exact ⟨_, (cell_of_row _ _ 5 _ _ _ h).trans rfl⟩
  · omega
theorem has_new (W : World) (b0 b1 b2 b3 b4 b5 : Bool) : Has ((W.alloc (.cells #[.bool b0, .bool b1, .bool b2, .bool b3, .bool b4, .bool b5] 4)).alloc (.cells #[.slice (some ⟨W.heap.size, 0, none⟩) 6 6] 60)) (W.heap.size + 1) := by
  have e : (W.alloc (.cells #[.bool b0, .bool b1, .bool b2, .bool b3, .bool b4, .bool b5] 4)).heap.size = W.heap.size + 1 := by simp
  have h := heap_alloc_new (W.alloc (.cells #[.bool b0, .bool b1, .bool b2, .bool b3, .bool b4, .bool b5] 4)) (.cells #[.slice (some ⟨W.heap.size, 0, none⟩) 6 6] 60)
  rw [e] at h
  exact ⟨W.heap.size, (cell_of_row _ _ 0 _ _ _ h).trans rfl, six (blk_alloc (heap_alloc_new W _) _)⟩
/-- A query with nothing in it. -/
def Bare (q : IQ) : Prop := (q.vals.length = 0 ∧ q.page = 0 ∧ q.paging.length = 0) ∧ q.cons = 0 ∧ q.serial = 0 ∧ q.ts.length = 0
set_option maxHeartbeats 20000000 in
theorem p6_2 {KK : Act → World → Prop} {R : Ending → World → Prop} {W : World} {v s : Int} {K : Nat} {r : IR} {Ao A As : Option Addr} {co c cs : Nat} {a : Act} (hI : I6 v s K a) (hK : W.heap[K]? = some (.cells (r.sc Ao co A c As cs) 39 (0, 0)))
    (h : ∀ a' w' Pp, I6 v s K a' → a'.tmps.getD 7 undef = .pointer (some ⟨Pp, 0, none⟩) → Below W.heap.size W w' → Has w' Pp → KK a' w') : Code.wp Tryz.prog (c6 2) (Exit.then KK (bodyPost Tryz.prog Tryz.f6 R)) a W := by
  have HH := Lib.hid h
  clear h
  obtain ⟨hd, hs, h0, h1, h5⟩ := hI
  obtain ⟨g, rfl⟩ := fr263 a hd hs
  have g0 : g 0 = .int .i64 v := h0
  have g1 : g 1 = .int .i64 s := h1
  have g5 : g 5 = .pointer (some ⟨K, 0, none⟩) := h5
  rw [g0, g1, g5]
  clear hd hs h0 h1 h5 g0 g1 g5
  conv => arg 2; whnf
  have c1 := (cell_of_row _ _ 1 _ _ _ hK).trans rfl
  have c2 := (cell_of_row _ _ 2 _ _ _ hK).trans rfl
  have c3 := (cell_of_row _ _ 3 _ _ _ hK).trans rfl
  have c11 := (cell_of_row _ _ 11 _ _ _ hK).trans rfl
  have c12 := (cell_of_row _ _ 12 _ _ _ hK).trans rfl
  have c13 := (cell_of_row _ _ 13 _ _ _ hK).trans rfl
  have c14 := (cell_of_row _ _ 14 _ _ _ hK).trans rfl
  refine l_start ?_
  by_cases hz : 0 < r.sts.length
  · have d1 : decide (0 < r.sts.length) = true := decide_eq_true (by omega)
    have d2 : decide ((0 : Int) < (r.sts.length : Int)) = true := decide_eq_true (by omega)
    iterate 28 (first | refine l_f ?_ | refine l_o ?_)
    simp only [List.drop]
    go_wp2
    exact HH.out _ _ (W.heap.size + 1) ⟨rfl, rfl, rfl, rfl, rfl⟩ rfl (below_alloc (below_alloc (Below.refl _ _) _) _) (has_new W _ _ _ _ _ _)
  · have d1 : decide (0 < r.sts.length) = false := decide_eq_false (by omega)
    have d2 : decide ((0 : Int) < (r.sts.length : Int)) = false := decide_eq_false (by omega)
    iterate 28 (first | refine l_f ?_ | refine l_o ?_)
    simp only [List.drop]
    go_wp2
    exact HH.out _ _ (W.heap.size + 1) ⟨rfl, rfl, rfl, rfl, rfl⟩ rfl (below_alloc (below_alloc (Below.refl _ _) _) _) (has_new W _ _ _ _ _ _)
set_option maxHeartbeats 20000000 in
theorem p6_3 {KK : Act → World → Prop} {R : Ending → World → Prop} {W : World} {v s : Int} {K Pp : Nat} {a : Act} (hI : I6 v s K a) (h7 : a.tmps.getD 7 undef = .pointer (some ⟨Pp, 0, none⟩))
    (h : ∀ a', I7 v s K Pp a' → KK a' W) : Code.wp Tryz.prog (c6 3) (Exit.then KK (bodyPost Tryz.prog Tryz.f6 R)) a W := by
  have hmf : ∀ (fn : Fn) (first cap : Array Value) (w : World), (Instr.makeFunc fn first cap).run Tryz.prog w = .ok (.func fn first cap) w := fun _ _ _ _ => rfl
  have HH := Lib.hid h
  clear h
  obtain ⟨hd, hs, h0, h1, h5⟩ := hI
  obtain ⟨g, rfl⟩ := fr263 a hd hs
  have g0 : g 0 = .int .i64 v := h0
  have g1 : g 1 = .int .i64 s := h1
  have g5 : g 5 = .pointer (some ⟨K, 0, none⟩) := h5
  have g7 : g 7 = .pointer (some ⟨Pp, 0, none⟩) := h7
  rw [g0, g1, g5, g7]
  clear h7 g7 hd hs h0 h1 h5 g0 g1 g5
  conv => arg 2; whnf
  go_wp2
  exact HH.out _ ⟨⟨rfl, rfl, rfl, rfl, rfl⟩, rfl⟩
set_option maxHeartbeats 20000000 in
theorem p6_4 {KK : Act → World → Prop} {R : Ending → World → Prop} {W : World} {v s : Int} {K Pp : Nat} {r : IR} {Ao A As : Option Addr} {co c cs : Nat} {a : Act} (hI : I7 v s K Pp a) (hK : W.heap[K]? = some (.cells (r.sc Ao co A c As cs) 39 (0, 0)))
    (h : ∀ a' w' b, I7 v s K Pp a' → a'.tmps.getD 9 undef = .bool b → (b = true → Bare r.q) → Below W.heap.size W w' → KK a' w') : Code.wp Tryz.prog (c6 4) (Exit.then KK (bodyPost Tryz.prog Tryz.f6 R)) a W := by
  obtain ⟨hI, h8⟩ := hI
  have HH := Lib.hid h
  clear h
  obtain ⟨hd, hs, h0, h1, h5⟩ := hI
  obtain ⟨g, rfl⟩ := fr263 a hd hs
  have g0 : g 0 = .int .i64 v := h0
  have g1 : g 1 = .int .i64 s := h1
  have g5 : g 5 = .pointer (some ⟨K, 0, none⟩) := h5
  have g8 : g 8 = may_ Pp := h8
  rw [g0, g1, g5, g8]
  clear h8 g8 hd hs h0 h1 h5 g0 g1 g5
  conv => arg 2; whnf
  have c4 := (cell_of_row _ _ 4 _ _ _ hK).trans rfl
  have c5 := (cell_of_row _ _ 5 _ _ _ hK).trans rfl
  have c6 := (cell_of_row _ _ 6 _ _ _ hK).trans rfl
  have c7 := (cell_of_row _ _ 7 _ _ _ hK).trans rfl
  have c8 := (cell_of_row _ _ 8 _ _ _ hK).trans rfl
  have c9 := (cell_of_row _ _ 9 _ _ _ hK).trans rfl
  have c10 := (cell_of_row _ _ 10 _ _ _ hK).trans rfl
  refine l_start ?_
  iterate 2 (first | refine l_f ?_ | refine l_o ?_)
  refine l_any 2 (N := some 96) rfl rfl fun K1 hK0 => ?_
  refine goes_ Tryz.func17 (by kernel_rfl) rfl #[.agg #[.int .i64 r.q.cons, .bool r.q.skip, .slice A r.q.vals.length c, .int .i64 r.q.page, .slice r.q.A4 r.q.paging.length r.q.c4, .int .i64 r.q.serial, .slice r.q.A6 r.q.ts.length r.q.c6]] (by rfl) rfl rfl (by simp only [List.map_toArray, List.map_cons, List.map_nil]; rfl) ?_
  with_reducible refine (nothing2_any W r.q A c).mono ?_
  rintro e w3 ⟨b3, rfl, hb3, hP3⟩
  refine ⟨_, rfl, ?_⟩
  refine hK0.out _ _ ?_
  clear hK0 K1
  refine l_norm (by (show Act.put _ (some 96) _ = _; simp only [Act.put, List.setIfInBounds_toArray, List.set_cons_zero, List.set_cons_succ, i64_w, i32_w]; rfl)) ?_
  clear c4 c5 c6 c7 c8 c9 c10
  have hK3 := blk_below hK hb3
  have c4 := (cell_of_row _ _ 4 _ _ _ hK3).trans rfl
  have c9 := (cell_of_row _ _ 9 _ _ _ hK3).trans rfl
  have c10 := (cell_of_row _ _ 10 _ _ _ hK3).trans rfl
  cases b3 with
  | false =>
    iterate 20 (first | refine l_f ?_ | refine l_o ?_)
    refine l_done 23 rfl ?_
    simp only [Exit.then]
    exact HH.out _ _ _ ⟨⟨rfl, rfl, rfl, rfl, rfl⟩, rfl⟩ rfl (fun h => by cases h) hb3
  | true =>
    have hp := hP3 rfl
    by_cases h1 : r.q.cons = 0
    · have d1 : (r.q.cons == 0) = true := beq_iff_eq.2 (by omega)
      by_cases h2 : r.q.serial = 0
      · have d2 : (r.q.serial == 0) = true := beq_iff_eq.2 (by omega)
        iterate 20 (first | refine l_f ?_ | refine l_o ?_)
        refine l_done 23 rfl ?_
        simp only [Exit.then]
        exact HH.out _ _ _ ⟨⟨rfl, rfl, rfl, rfl, rfl⟩, rfl⟩ rfl (fun h => ⟨hp, h1, h2, by simp at h; simp [h]⟩) hb3
      · have d2 : (r.q.serial == 0) = false := beq_eq_false_iff_ne.2 (by omega)
        iterate 20 (first | refine l_f ?_ | refine l_o ?_)
        refine l_done 23 rfl ?_
        simp only [Exit.then]
        exact HH.out _ _ _ ⟨⟨rfl, rfl, rfl, rfl, rfl⟩, rfl⟩ rfl (fun h => by cases h) hb3
    · have d1 : (r.q.cons == 0) = false := beq_eq_false_iff_ne.2 (by omega)
      iterate 20 (first | refine l_f ?_ | refine l_o ?_)
      refine l_done 23 rfl ?_
      simp only [Exit.then]
      exact HH.out _ _ _ ⟨⟨rfl, rfl, rfl, rfl, rfl⟩, rfl⟩ rfl (fun h => by cases h) hb3
theorem may0 (w : World) (Pp : Nat) (h : Has w Pp) : Calls Tryz.prog 16 #[.slice none 0 0, .pointer (some ⟨Pp, 0, none⟩)] w (Yes w True) := by
  obtain ⟨B, h1, h2⟩ := h
  exact may_any w Pp B none 0 [] h1 h2 (ReadsInt.nil w .i64) (by simp)
theorem may1 (w : World) (Pp : Nat) (k : Int) (h : Has w Pp) : Calls Tryz.prog 16 #[.slice (some ⟨w.heap.size, 0, none⟩) 1 1, .pointer (some ⟨Pp, 0, none⟩)] (w.alloc (.cells #[.int .i64 k] 3)) (Yes (w.alloc (.cells #[.int .i64 k] 3)) True) := by
  obtain ⟨B, h1, h2⟩ := h.below_ (below_alloc (Below.refl _ _) (.cells #[.int .i64 k] 3))
  refine may_any _ Pp B _ 1 [k] h1 h2 ⟨rfl, by simp, fun _ => ⟨_, rfl, fun j hj => ?_⟩⟩ (by simp)
  have hj0 : j = 0 := by simp at hj; exact hj
  subst hj0
  have hh := (cell_of_row _ _ 0 _ _ _ (heap_alloc_new w (.cells #[.int .i64 k] 3))).trans (rfl : _ = some (Value.int .i64 k))
  simp only [Addr.add_zero']
  exact hh
set_option maxHeartbeats 20000000 in
theorem p6_options {KK : Act → World → Prop} {PP : Prop} {w0 W : World} {v s : Int} {K Pp : Nat} {b9 : Bool} {r : IR} {Ao A As : Option Addr} {co c cs : Nat} {a : Act} (hI : I7 v s K Pp a ∧ a.tmps.getD 9 undef = .bool b9) (hK : W.heap[K]? = some (.cells (r.sc Ao co A c As cs) 39 (0, 0))) (hB : Below w0.heap.size w0 W) (hH : Has W Pp) (ho : r.op = 5)
    (h : (b9 = true) → PP) : Code.wp Tryz.prog (c6 5) (Exit.then KK (bodyPost Tryz.prog Tryz.f6 (Yes w0 PP))) a W := by
  have HK := Lib.hid hK
  have HB := Lib.hid hB
  have HHs := Lib.hid hH
  have HP := Lib.hid h
  have c0 : W.cell? ⟨K, 0, none⟩ = some (.int .i64 5) := ((cell_of_row _ _ 0 _ _ _ hK).trans rfl : W.cell? ⟨K, 0, none⟩ = some (.int .i64 r.op)).trans (by rw [ho])
  clear hK hB hH h ho
  obtain ⟨⟨⟨hd, hs, h0, h1, h5⟩, h8⟩, h9⟩ := hI
  obtain ⟨g, rfl⟩ := fr263 a hd hs
  have g0 : g 0 = .int .i64 v := h0
  have g1 : g 1 = .int .i64 s := h1
  have g5 : g 5 = .pointer (some ⟨K, 0, none⟩) := h5
  have g8 : g 8 = may_ Pp := h8
  have g9 : g 9 = .bool b9 := h9
  rw [g0, g1, g5, g8, g9]
  clear hd hs h0 h1 h5 h8 h9 g0 g1 g5 g8 g9
  conv => arg 2; whnf
  go_wp2_with fail
  refine (may0 W Pp HHs.out).mono ?_
  rintro e w1 ⟨b, rfl, hb, -⟩
  have HB1 := Lib.hid (below_then HB.out HB.out.size hb)
  have HK1 := Lib.hid (blk_below HK.out hb)
  clear hb
  cases b with
  | false =>
    go_wp2
    go_ret
    exact Yes.no HB1.out
  | true =>
    go_wp2
    go_ret
    exact ⟨_, rfl, HB1.out, HP.out⟩
set_option maxHeartbeats 20000000 in
theorem p6_prepare {KK : Act → World → Prop} {PP : Prop} {w0 W : World} {v s : Int} {K Pp : Nat} {b9 : Bool} {r : IR} {Ao A As : Option Addr} {co c cs : Nat} {a : Act} (hI : I7 v s K Pp a ∧ a.tmps.getD 9 undef = .bool b9) (hK : W.heap[K]? = some (.cells (r.sc Ao co A c As cs) 39 (0, 0))) (hB : Below w0.heap.size w0 W) (hH : Has W Pp) (ho : r.op = 9)
    (h : (b9 = true) → PP) : Code.wp Tryz.prog (c6 5) (Exit.then KK (bodyPost Tryz.prog Tryz.f6 (Yes w0 PP))) a W := by
  have HK := Lib.hid hK
  have HB := Lib.hid hB
  have HHs := Lib.hid hH
  have HP := Lib.hid h
  have c0 : W.cell? ⟨K, 0, none⟩ = some (.int .i64 9) := ((cell_of_row _ _ 0 _ _ _ hK).trans rfl : W.cell? ⟨K, 0, none⟩ = some (.int .i64 r.op)).trans (by rw [ho])
  clear hK hB hH h ho
  obtain ⟨⟨⟨hd, hs, h0, h1, h5⟩, h8⟩, h9⟩ := hI
  obtain ⟨g, rfl⟩ := fr263 a hd hs
  have g0 : g 0 = .int .i64 v := h0
  have g1 : g 1 = .int .i64 s := h1
  have g5 : g 5 = .pointer (some ⟨K, 0, none⟩) := h5
  have g8 : g 8 = may_ Pp := h8
  have g9 : g 9 = .bool b9 := h9
  rw [g0, g1, g5, g8, g9]
  clear hd hs h0 h1 h5 h8 h9 g0 g1 g5 g8 g9
  conv => arg 2; whnf
  go_wp2_with fail
  refine (may1 W Pp 1 HHs.out).mono ?_
  rintro e w1 ⟨b, rfl, hb, -⟩
  have HBa := Lib.hid (below_then HB.out HB.out.size (below_alloc (Below.refl _ _) (.cells #[.int .i64 1] 3)))
  have HB1 := Lib.hid (below_then HBa.out HBa.out.size hb)
  have HK1 := Lib.hid (blk_below (blk_alloc HK.out (.cells #[.int .i64 1] 3)) hb)
  clear hb
  cases b with
  | false =>
    go_wp2
    go_ret
    exact Yes.no HB1.out
  | true =>
    go_wp2
    go_ret
    exact ⟨_, rfl, HB1.out, HP.out⟩
set_option maxHeartbeats 20000000 in
theorem p6_auth {KK : Act → World → Prop} {PP : Prop} {w0 W : World} {v s : Int} {K Pp : Nat} {b9 : Bool} {r : IR} {Ao A As : Option Addr} {co c cs : Nat} {a : Act} (hI : I7 v s K Pp a ∧ a.tmps.getD 9 undef = .bool b9) (hK : W.heap[K]? = some (.cells (r.sc Ao co A c As cs) 39 (0, 0))) (hB : Below w0.heap.size w0 W) (hH : Has W Pp) (ho : r.op = 15)
    (h : (b9 = true) → PP) : Code.wp Tryz.prog (c6 5) (Exit.then KK (bodyPost Tryz.prog Tryz.f6 (Yes w0 PP))) a W := by
  have HK := Lib.hid hK
  have HB := Lib.hid hB
  have HHs := Lib.hid hH
  have HP := Lib.hid h
  have c0 : W.cell? ⟨K, 0, none⟩ = some (.int .i64 15) := ((cell_of_row _ _ 0 _ _ _ hK).trans rfl : W.cell? ⟨K, 0, none⟩ = some (.int .i64 r.op)).trans (by rw [ho])
  clear hK hB hH h ho
  obtain ⟨⟨⟨hd, hs, h0, h1, h5⟩, h8⟩, h9⟩ := hI
  obtain ⟨g, rfl⟩ := fr263 a hd hs
  have g0 : g 0 = .int .i64 v := h0
  have g1 : g 1 = .int .i64 s := h1
  have g5 : g 5 = .pointer (some ⟨K, 0, none⟩) := h5
  have g8 : g 8 = may_ Pp := h8
  have g9 : g 9 = .bool b9 := h9
  rw [g0, g1, g5, g8, g9]
  clear hd hs h0 h1 h5 h8 h9 g0 g1 g5 g8 g9
  conv => arg 2; whnf
  go_wp2_with fail
  refine (may1 W Pp 5 HHs.out).mono ?_
  rintro e w1 ⟨b, rfl, hb, -⟩
  have HBa := Lib.hid (below_then HB.out HB.out.size (below_alloc (Below.refl _ _) (.cells #[.int .i64 5] 3)))
  have HB1 := Lib.hid (below_then HBa.out HBa.out.size hb)
  have HK1 := Lib.hid (blk_below (blk_alloc HK.out (.cells #[.int .i64 5] 3)) hb)
  clear hb
  cases b with
  | false =>
    go_wp2
    go_ret
    exact Yes.no HB1.out
  | true =>
    go_wp2
    go_ret
    exact ⟨_, rfl, HB1.out, HP.out⟩
end Go.Proofs.YtammjbmfiakbnaaGreatDoor
