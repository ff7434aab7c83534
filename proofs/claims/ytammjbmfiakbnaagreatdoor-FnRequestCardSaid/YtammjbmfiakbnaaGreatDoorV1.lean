/-
  impl.params: the first statement.
-/
import Derived.Test.YtammjbmfiakbnaaGreatDoorU
namespace Go.Proofs.YtammjbmfiakbnaaGreatDoor
set_option maxHeartbeats 2000000
set_option maxRecDepth 100000
set_option linter.unusedSimpArgs false
set_option linter.unusedVariables false
open Go.RowKit Go.Proofs.YtammjbmfiakbnaaGreatDoorW.PrintWords Go.Proofs.YtammjbmfiakbnaaGreatDoorW.PrintLast Go.Proofs.YtammjbmfiakbnaaGreatDoorW.PrintMore
open Go.Proofs.YtammjbmfiakbnaaGreatDoor.PFnRequest
set_option maxHeartbeats 4000000 in
theorem p41_1 {R : Ending → World → Prop} (w : World) (q : IQ) (hq : q.ok) (hI : q.In w)
    (hk : ∀ a W KB A1 c1 A2 c2 rs, I41 q w.heap.size (w.heap.size + 1) KB a → F41 w q KB A1 c1 A2 c2 rs W → Code.wp Tryz.prog ((c41 2).seq ((c41 3).seq (t41 4))) (bodyPost Tryz.prog Tryz.f41 R) a W) :
    Calls Tryz.prog 41 #[.agg q.cells] w R := by
  have Hkk := Lib.hid hk
  clear hk
  have HC : Hid (Kd.C k93 w q.A q.vals.length q.vals ∧ (Kd.int .u8).C w q.A4 q.paging.length q.paging ∧ (Kd.int .i64).C w q.A6 q.ts.length q.ts) := Lib.hid hI
  have hN : q.vals.length ≤ 20 := hq.2.2.1
  have Hd := Lib.hid (fun x hx => (hq.2.2.2.1 x hx).1)
  have hpg : q.paging.length ≤ 100 := hq.2.2.2.2.2.2.1
  have Hq := Lib.hid hq
  have hw1 : IntKind.u16.wrap q.cons = q.cons := by have := hq.1; have := hq.2.1; rw [IntKind.wrap_u16]; omega
  have hw2 : IntKind.u16.wrap q.serial = q.serial := by have := hq.2.2.2.2.2.2.2.1; have := hq.2.2.2.2.2.2.2.2.1; rw [IntKind.wrap_u16]; omega
  clear hI hq
  go_enter Tryz.func41, Tryz.ntmps41
  go_upto_region 1 with (fail)
  have HBA := Lib.hid (below_alloc (below_alloc (Below.refl w.heap.size w) (Obj.cells q.cells 27)) (Obj.cells zero108 108))
  have HN1 := Lib.hid (blk_alloc (heap_alloc_new w (Obj.cells q.cells 27)) (Obj.cells zero108 108))
  have HN2 := Lib.hid (heap_alloc_new2 w (Obj.cells q.cells 27) (Obj.cells zero108 108))
  have Hk : Hid (∀ i v, q.cells[i]? = some v → ((w.alloc (Obj.cells q.cells 27)).alloc (Obj.cells zero108 108)).cell? ⟨w.heap.size, i, none⟩ = some v) := Lib.hid (fun i v h => (cell_of_row _ _ i _ _ _ HN1.out).trans h)
  generalize (w.alloc _).alloc _ = w0 at *
  have HBe0 := Lib.hid ((Below.refl w0.heap.size w0).drew)
  refine start_ (n := 19) (S := fun w' => w'.cell? ⟨w.heap.size, 0, none⟩ = some (.int .i64 q.cons) ∧ w'.cell? ⟨w.heap.size, 1, none⟩ = some (.bool q.skip) ∧ w'.cell? ⟨w.heap.size, 2, none⟩ = some (.slice q.A q.vals.length q.c) ∧ w'.cell? ⟨w.heap.size, 3, none⟩ = some (.int .i64 q.page) ∧ w'.cell? ⟨w.heap.size, 4, none⟩ = some (.slice q.A4 q.paging.length q.c4) ∧ w'.cell? ⟨w.heap.size, 5, none⟩ = some (.int .i64 q.serial)) (ds := [18]) #[false, false, false, false, false, false, false, false, false, false, false, false, false, false, false, false, false, false, false] (by kernel_rfl) rfl rfl ⟨pw_cell_below HBe0.out (Hk.out 0 _ rfl), pw_cell_below HBe0.out (Hk.out 1 _ rfl), pw_cell_below HBe0.out (Hk.out 2 _ rfl), pw_cell_below HBe0.out (Hk.out 3 _ rfl), pw_cell_below HBe0.out (Hk.out 4 _ rfl), pw_cell_below HBe0.out (Hk.out 5 _ rfl)⟩ (fun hHeld => ?_)
  refine e_o 0 ?_
  refine e_o 3 ?_
  refine e_o 5 ?_
  refine e_o 8 ?_
  refine e_o 10 ?_
  refine e_o 13 ?_
  refine e_t 1 hHeld ?_
  refine e_o 2 ?_
  refine e_t 4 hHeld ?_
  refine e_t 6 hHeld ?_
  refine e_t 9 hHeld ?_
  refine e_t 11 hHeld ?_
  refine e_t 14 hHeld ?_
  refine e_o 15 ?_
  refine join_ (σ := Nat × Option Addr × Nat × Option Addr × Nat) 1 #[true, true, true, true, true, true, true, true, true, true, true, true, true, true, true, true, true, true, false] (fun s => [(12, .slice s.2.1 q.vals.length s.2.2.1), (17, .slice s.2.2.2.1 q.paging.length s.2.2.2.2), (4, .pointer (some ⟨s.1, 0, none⟩)), (21, .agg #[.int .u16 q.cons, .bool q.skip, .slice s.2.1 q.vals.length s.2.2.1, .int .i64 q.page, .slice s.2.2.2.1 q.paging.length s.2.2.2.2, .int .u16 q.serial, .bool false, .int .i64 0, .string ⟨#[]⟩])]) (fun s w' => (w'.cell? ⟨w.heap.size, 0, none⟩ = some (.int .i64 q.cons) ∧ w'.cell? ⟨w.heap.size, 1, none⟩ = some (.bool q.skip) ∧ w'.cell? ⟨w.heap.size, 2, none⟩ = some (.slice q.A q.vals.length q.c) ∧ w'.cell? ⟨w.heap.size, 3, none⟩ = some (.int .i64 q.page) ∧ w'.cell? ⟨w.heap.size, 4, none⟩ = some (.slice q.A4 q.paging.length q.c4) ∧ w'.cell? ⟨w.heap.size, 5, none⟩ = some (.int .i64 q.serial)) ∧ ∃ rs, Below w0.heap.size w0 w' ∧ w0.heap.size ≤ s.1 ∧ w'.heap[s.1]? = some (.cells zero108 108 (0, 0)) ∧ VRow w' w0.heap.size (.slice s.2.1 q.vals.length s.2.2.1) rs (q.vals.map qv) ∧ w'.ownsRow w0.heap.size 5 1 (.slice s.2.2.2.1 q.paging.length s.2.2.2.2) q.paging.length (nums .u8 q.paging)) ?_ ?_
  rotate_left
  · intro hCont
    refine two_ (i := 7) (j := 17) (Ni := some 12) (Nj := some 4) #[true, true, true, true, true, true, true, true, true, true, true, true, false, true, true, true, false, false, false] #[true, true, true, true, true, true, true, false, true, true, true, true, false, true, true, true, false, true, false] rfl rfl rfl rfl (by kernel_rfl) (by decide) (by decide) (fun K hK => ?_) (fun K hK => ?_)
    · skip
      refine goes_ Tryz.func81 (by kernel_rfl) rfl #[.slice q.A q.vals.length q.c] (by rfl) rfl rfl (by simp only [List.map_toArray, List.map_cons, List.map_nil]; rfl) ?_
      with_reducible refine (values_any _ q.A q.c q.vals (Kd.C_below HC.out.1 (below_then HBA.out HBA.out.size HBe0.out)) hN Hd.out).mono ?_
      rintro e x0 ⟨A1, c1, rs, rfl, hb0, hz⟩
      refine ⟨_, rfl, ?_⟩
      have HV1 : Hid (VRow x0 w0.heap.size (.slice A1 q.vals.length c1) rs (q.vals.map qv)) := Lib.hid (hz.lower HBe0.out.size)
      have HBe1 := Lib.hid (below_then HBe0.out HBe0.out.size hb0)
      clear hb0
      clear hz
      refine hK.out _ _ ⟨pw_cell_below HBe1.out (Hk.out 0 _ rfl), pw_cell_below HBe1.out (Hk.out 1 _ rfl), pw_cell_below HBe1.out (Hk.out 2 _ rfl), pw_cell_below HBe1.out (Hk.out 3 _ rfl), pw_cell_below HBe1.out (Hk.out 4 _ rfl), pw_cell_below HBe1.out (Hk.out 5 _ rfl)⟩ (fun hHeld => ?_)
      clear hK K
      refine norm_ (a' := ?_) ?_ ?_
      rotate_left
      · show Act.put _ (some 12) _ = _
        simp only [Act.put, List.setIfInBounds_toArray, List.set_cons_zero, List.set_cons_succ, i64_w, i32_w]
        rfl
      refine two_ (i := 12) (j := 17) (Ni := some 17) (Nj := some 4) #[true, true, true, true, true, true, true, true, true, true, true, true, true, true, true, true, false, false, false] #[true, true, true, true, true, true, true, true, true, true, true, true, false, true, true, true, false, true, false] rfl rfl rfl rfl (by kernel_rfl) (by decide) (by decide) (fun K hK => ?_) (fun K hK => ?_)
      · skip
        refine app_step (E := _) rfl (.const (.slice none 0 0)) (.tmp 16) 23 23 rfl (.slice none 0 0) _ rfl rfl (ap_row2 23 _ Tryz.underlying23 _ [] q.paging q.A4 _ q.c4 (own_nil _ x0.heap.size _ _) (ints_of (Kd.C_below HC.out.2.1 (below_then HBA.out HBA.out.size HBe1.out))) (Nat.le_refl _) (by simp only [List.length_nil]; omega)) ?_
        rintro vp x1 ⟨⟨hownp, hgp⟩, _⟩
        have hb1 := grown_nil hgp rfl
        rw [List.nil_append] at hownp
        obtain ⟨A2, m2, c2, rfl⟩ := own_form hownp
        have hm2 : m2 = q.paging.length := (own_len hownp)
        subst hm2
        have HP2 : Hid (x1.ownsRow w0.heap.size 5 1 (.slice A2 q.paging.length c2) q.paging.length (nums .u8 q.paging)) := Lib.hid (own_weaken hownp HBe1.out.size)
        have HV2 := Lib.hid (HV1.out.below_ hb1)
        have HBe2 := Lib.hid (below_then HBe1.out HBe1.out.size hb1)
        clear hb1
        refine hK.out _ _ ⟨pw_cell_below HBe2.out (Hk.out 0 _ rfl), pw_cell_below HBe2.out (Hk.out 1 _ rfl), pw_cell_below HBe2.out (Hk.out 2 _ rfl), pw_cell_below HBe2.out (Hk.out 3 _ rfl), pw_cell_below HBe2.out (Hk.out 4 _ rfl), pw_cell_below HBe2.out (Hk.out 5 _ rfl)⟩ (fun hHeld => ?_)
        clear hK K
        refine norm_ (a' := ?_) ?_ ?_
        rotate_left
        · show Act.put _ (some 17) _ = _
          simp only [Act.put, List.setIfInBounds_toArray, List.set_cons_zero, List.set_cons_succ, i64_w, i32_w]
          rfl
        refine e_o 16 ?_
        refine one_ (i := 17) (N := some 4) #[true, true, true, true, true, true, true, true, true, true, true, true, true, true, true, true, true, true, false] rfl rfl (by kernel_rfl) (by decide) (fun K hK => ?_)
        refine value_ (w1 := ?_) (v := ?_) (by rfl) rfl ?_ ?_
        rotate_left 2
        · go_simp
          constructor
          · rfl
          · rfl
        have hb2 := below_alloc (Below.refl x1.heap.size x1) (Obj.cells zero108 108)
        have HK3 := Lib.hid (heap_alloc_new x1 (Obj.cells zero108 108))
        have HV3 := Lib.hid (HV2.out.below_ hb2)
        have HP3 := Lib.hid (pw_own_below HP2.out hb2)
        have HBe3 := Lib.hid (below_then HBe2.out HBe2.out.size hb2)
        clear hb2
        refine hK.out _ _ ⟨pw_cell_below HBe3.out (Hk.out 0 _ rfl), pw_cell_below HBe3.out (Hk.out 1 _ rfl), pw_cell_below HBe3.out (Hk.out 2 _ rfl), pw_cell_below HBe3.out (Hk.out 3 _ rfl), pw_cell_below HBe3.out (Hk.out 4 _ rfl), pw_cell_below HBe3.out (Hk.out 5 _ rfl)⟩ (fun hHeld => ?_)
        clear hK K
        refine norm_ (a' := ?_) ?_ ?_
        rotate_left
        · show Act.put _ (some 4) _ = _
          simp only [Act.put, List.setIfInBounds_toArray, List.set_cons_zero, List.set_cons_succ, i64_w, i32_w]
          rfl
        exact norm_ (by simp only [putAll, Act.put, List.setIfInBounds_toArray, List.set_cons_zero, List.set_cons_succ]) (hCont (x1.heap.size, A1, c1, A2, c2) _ ⟨⟨pw_cell_below HBe3.out (Hk.out 0 _ rfl), pw_cell_below HBe3.out (Hk.out 1 _ rfl), pw_cell_below HBe3.out (Hk.out 2 _ rfl), pw_cell_below HBe3.out (Hk.out 3 _ rfl), pw_cell_below HBe3.out (Hk.out 4 _ rfl), pw_cell_below HBe3.out (Hk.out 5 _ rfl)⟩, rs, HBe3.out, HBe2.out.size, HK3.out, HV3.out, HP3.out⟩)
      · skip
        refine value_ (w1 := ?_) (v := ?_) (by rfl) rfl ?_ ?_
        rotate_left 2
        · go_simp
          constructor
          · rfl
          · rfl
        have hb1 := below_alloc (Below.refl x0.heap.size x0) (Obj.cells zero108 108)
        have HK2 := Lib.hid (heap_alloc_new x0 (Obj.cells zero108 108))
        have HV2 := Lib.hid (HV1.out.below_ hb1)
        have HBe2 := Lib.hid (below_then HBe1.out HBe1.out.size hb1)
        clear hb1
        refine hK.out _ _ ⟨pw_cell_below HBe2.out (Hk.out 0 _ rfl), pw_cell_below HBe2.out (Hk.out 1 _ rfl), pw_cell_below HBe2.out (Hk.out 2 _ rfl), pw_cell_below HBe2.out (Hk.out 3 _ rfl), pw_cell_below HBe2.out (Hk.out 4 _ rfl), pw_cell_below HBe2.out (Hk.out 5 _ rfl)⟩ (fun hHeld => ?_)
        clear hK K
        refine norm_ (a' := ?_) ?_ ?_
        rotate_left
        · show Act.put _ (some 4) _ = _
          simp only [Act.put, List.setIfInBounds_toArray, List.set_cons_zero, List.set_cons_succ, i64_w, i32_w]
          rfl
        refine one_ (i := 12) (N := some 17) #[true, true, true, true, true, true, true, true, true, true, true, true, true, true, true, true, false, true, false] rfl rfl (by kernel_rfl) (by decide) (fun K hK => ?_)
        refine app_step (E := _) rfl (.const (.slice none 0 0)) (.tmp 16) 23 23 rfl (.slice none 0 0) _ rfl rfl (ap_row2 23 _ Tryz.underlying23 _ [] q.paging q.A4 _ q.c4 (own_nil _ (x0.alloc (Obj.cells zero108 108)).heap.size _ _) (ints_of (Kd.C_below HC.out.2.1 (below_then HBA.out HBA.out.size HBe2.out))) (Nat.le_refl _) (by simp only [List.length_nil]; omega)) ?_
        rintro vp x2 ⟨⟨hownp, hgp⟩, _⟩
        have hb2 := grown_nil hgp rfl
        rw [List.nil_append] at hownp
        obtain ⟨A2, m2, c2, rfl⟩ := own_form hownp
        have hm2 : m2 = q.paging.length := (own_len hownp)
        subst hm2
        have HP3 : Hid (x2.ownsRow w0.heap.size 5 1 (.slice A2 q.paging.length c2) q.paging.length (nums .u8 q.paging)) := Lib.hid (own_weaken hownp HBe2.out.size)
        have HK3 := Lib.hid (blk_below HK2.out hb2)
        have HV3 := Lib.hid (HV2.out.below_ hb2)
        have HBe3 := Lib.hid (below_then HBe2.out HBe2.out.size hb2)
        clear hb2
        refine hK.out _ _ ⟨pw_cell_below HBe3.out (Hk.out 0 _ rfl), pw_cell_below HBe3.out (Hk.out 1 _ rfl), pw_cell_below HBe3.out (Hk.out 2 _ rfl), pw_cell_below HBe3.out (Hk.out 3 _ rfl), pw_cell_below HBe3.out (Hk.out 4 _ rfl), pw_cell_below HBe3.out (Hk.out 5 _ rfl)⟩ (fun hHeld => ?_)
        clear hK K
        refine norm_ (a' := ?_) ?_ ?_
        rotate_left
        · show Act.put _ (some 17) _ = _
          simp only [Act.put, List.setIfInBounds_toArray, List.set_cons_zero, List.set_cons_succ, i64_w, i32_w]
          rfl
        refine e_o 16 ?_
        exact norm_ (by simp only [putAll, Act.put, List.setIfInBounds_toArray, List.set_cons_zero, List.set_cons_succ]) (hCont (x0.heap.size, A1, c1, A2, c2) _ ⟨⟨pw_cell_below HBe3.out (Hk.out 0 _ rfl), pw_cell_below HBe3.out (Hk.out 1 _ rfl), pw_cell_below HBe3.out (Hk.out 2 _ rfl), pw_cell_below HBe3.out (Hk.out 3 _ rfl), pw_cell_below HBe3.out (Hk.out 4 _ rfl), pw_cell_below HBe3.out (Hk.out 5 _ rfl)⟩, rs, HBe3.out, HBe1.out.size, HK3.out, HV3.out, HP3.out⟩)
    · skip
      refine value_ (w1 := ?_) (v := ?_) (by rfl) rfl ?_ ?_
      rotate_left 2
      · go_simp
        constructor
        · rfl
        · rfl
      have hb0 : Below w0.drew.heap.size w0.drew (w0.alloc (Obj.cells zero108 108)).drew := below_alloc (Below.refl w0.drew.heap.size w0.drew) (Obj.cells zero108 108)
      have HK1 : Hid ((w0.alloc (Obj.cells zero108 108)).drew.heap[w0.heap.size]? = some (.cells zero108 108 (0, 0))) := Lib.hid (heap_alloc_new w0.drew (Obj.cells zero108 108))
      have HBe1 := Lib.hid (below_then HBe0.out HBe0.out.size hb0)
      clear hb0
      refine hK.out _ _ ⟨pw_cell_below HBe1.out (Hk.out 0 _ rfl), pw_cell_below HBe1.out (Hk.out 1 _ rfl), pw_cell_below HBe1.out (Hk.out 2 _ rfl), pw_cell_below HBe1.out (Hk.out 3 _ rfl), pw_cell_below HBe1.out (Hk.out 4 _ rfl), pw_cell_below HBe1.out (Hk.out 5 _ rfl)⟩ (fun hHeld => ?_)
      clear hK K
      refine norm_ (a' := ?_) ?_ ?_
      rotate_left
      · show Act.put _ (some 4) _ = _
        simp only [Act.put, List.setIfInBounds_toArray, List.set_cons_zero, List.set_cons_succ, i64_w, i32_w]
        rfl
      refine one_ (i := 7) (N := some 12) #[true, true, true, true, true, true, true, true, true, true, true, true, false, true, true, true, false, true, false] rfl rfl (by kernel_rfl) (by decide) (fun K hK => ?_)
      refine goes_ Tryz.func81 (by kernel_rfl) rfl #[.slice q.A q.vals.length q.c] (by rfl) rfl rfl (by simp only [List.map_toArray, List.map_cons, List.map_nil]; rfl) ?_
      with_reducible refine (values_any _ q.A q.c q.vals (Kd.C_below HC.out.1 (below_then HBA.out HBA.out.size HBe1.out)) hN Hd.out).mono ?_
      rintro e x1 ⟨A1, c1, rs, rfl, hb1, hz⟩
      refine ⟨_, rfl, ?_⟩
      have HV2 : Hid (VRow x1 w0.heap.size (.slice A1 q.vals.length c1) rs (q.vals.map qv)) := Lib.hid (hz.lower HBe1.out.size)
      have HK2 := Lib.hid (blk_below HK1.out hb1)
      have HBe2 := Lib.hid (below_then HBe1.out HBe1.out.size hb1)
      clear hb1
      clear hz
      refine hK.out _ _ ⟨pw_cell_below HBe2.out (Hk.out 0 _ rfl), pw_cell_below HBe2.out (Hk.out 1 _ rfl), pw_cell_below HBe2.out (Hk.out 2 _ rfl), pw_cell_below HBe2.out (Hk.out 3 _ rfl), pw_cell_below HBe2.out (Hk.out 4 _ rfl), pw_cell_below HBe2.out (Hk.out 5 _ rfl)⟩ (fun hHeld => ?_)
      clear hK K
      refine norm_ (a' := ?_) ?_ ?_
      rotate_left
      · show Act.put _ (some 12) _ = _
        simp only [Act.put, List.setIfInBounds_toArray, List.set_cons_zero, List.set_cons_succ, i64_w, i32_w]
        rfl
      refine one_ (i := 12) (N := some 17) #[true, true, true, true, true, true, true, true, true, true, true, true, true, true, true, true, false, true, false] rfl rfl (by kernel_rfl) (by decide) (fun K hK => ?_)
      refine app_step (E := _) rfl (.const (.slice none 0 0)) (.tmp 16) 23 23 rfl (.slice none 0 0) _ rfl rfl (ap_row2 23 _ Tryz.underlying23 _ [] q.paging q.A4 _ q.c4 (own_nil _ x1.heap.size _ _) (ints_of (Kd.C_below HC.out.2.1 (below_then HBA.out HBA.out.size HBe2.out))) (Nat.le_refl _) (by simp only [List.length_nil]; omega)) ?_
      rintro vp x2 ⟨⟨hownp, hgp⟩, _⟩
      have hb2 := grown_nil hgp rfl
      rw [List.nil_append] at hownp
      obtain ⟨A2, m2, c2, rfl⟩ := own_form hownp
      have hm2 : m2 = q.paging.length := (own_len hownp)
      subst hm2
      have HP3 : Hid (x2.ownsRow w0.heap.size 5 1 (.slice A2 q.paging.length c2) q.paging.length (nums .u8 q.paging)) := Lib.hid (own_weaken hownp HBe2.out.size)
      have HK3 := Lib.hid (blk_below HK2.out hb2)
      have HV3 := Lib.hid (HV2.out.below_ hb2)
      have HBe3 := Lib.hid (below_then HBe2.out HBe2.out.size hb2)
      clear hb2
      refine hK.out _ _ ⟨pw_cell_below HBe3.out (Hk.out 0 _ rfl), pw_cell_below HBe3.out (Hk.out 1 _ rfl), pw_cell_below HBe3.out (Hk.out 2 _ rfl), pw_cell_below HBe3.out (Hk.out 3 _ rfl), pw_cell_below HBe3.out (Hk.out 4 _ rfl), pw_cell_below HBe3.out (Hk.out 5 _ rfl)⟩ (fun hHeld => ?_)
      clear hK K
      refine norm_ (a' := ?_) ?_ ?_
      rotate_left
      · show Act.put _ (some 17) _ = _
        simp only [Act.put, List.setIfInBounds_toArray, List.set_cons_zero, List.set_cons_succ, i64_w, i32_w]
        rfl
      refine e_o 16 ?_
      exact norm_ (by simp only [putAll, Act.put, List.setIfInBounds_toArray, List.set_cons_zero, List.set_cons_succ]) (hCont (w0.heap.size, A1, c1, A2, c2) _ ⟨⟨pw_cell_below HBe3.out (Hk.out 0 _ rfl), pw_cell_below HBe3.out (Hk.out 1 _ rfl), pw_cell_below HBe3.out (Hk.out 2 _ rfl), pw_cell_below HBe3.out (Hk.out 3 _ rfl), pw_cell_below HBe3.out (Hk.out 4 _ rfl), pw_cell_below HBe3.out (Hk.out 5 _ rfl)⟩, rs, HBe3.out, HBe0.out.size, HK3.out, HV3.out, HP3.out⟩)
  rintro ⟨K, A1, c1, A2, c2⟩ x4 ⟨hHeld, rs, hBe, hKge, hK, hz, hP⟩
  have HK := Lib.hid hK
  have hf : ∀ i, x4.frozen? ⟨K, i, none⟩ = false := fun i => blk_froz HK.out
  have hq0 : x4.cell? ⟨K, 0, none⟩ = some (.int .u16 0) := (cell_of_row _ _ 0 _ _ _ HK.out).trans rfl
  have hq1 : x4.cell? ⟨K, 1, none⟩ = some (.bool false) := (cell_of_row _ _ 1 _ _ _ HK.out).trans rfl
  have hq2 : x4.cell? ⟨K, 2, none⟩ = some (.slice none 0 0) := (cell_of_row _ _ 2 _ _ _ HK.out).trans rfl
  have hq3 : x4.cell? ⟨K, 3, none⟩ = some (.int .i64 0) := (cell_of_row _ _ 3 _ _ _ HK.out).trans rfl
  have hq4 : x4.cell? ⟨K, 4, none⟩ = some (.slice none 0 0) := (cell_of_row _ _ 4 _ _ _ HK.out).trans rfl
  have hq5 : x4.cell? ⟨K, 5, none⟩ = some (.int .u16 0) := (cell_of_row _ _ 5 _ _ _ HK.out).trans rfl
  have hq6 : x4.cell? ⟨K, 6, none⟩ = some (.bool false) := (cell_of_row _ _ 6 _ _ _ HK.out).trans rfl
  have hq7 : x4.cell? ⟨K, 7, none⟩ = some (.int .i64 0) := (cell_of_row _ _ 7 _ _ _ HK.out).trans rfl
  have hq8 : x4.cell? ⟨K, 8, none⟩ = some (.string ⟨#[]⟩) := (cell_of_row _ _ 8 _ _ _ HK.out).trans rfl
  refine norm_ (a' := ?_) ?_ ?_
  rotate_left
  · simp only [putAll, Act.put, List.setIfInBounds_toArray, List.set_cons_zero, List.set_cons_succ]
    rfl
  refine last_ (i := 18) (N := none) #[true, true, true, true, true, true, true, true, true, true, true, true, true, true, true, true, true, true, true] rfl rfl (by kernel_rfl) (by decide) (fun K hK => ?_)
  refine skip_ (w1 := ?_) (by rfl) rfl ?_ ?_
  rotate_left
  · go_simp
    rfl
  refine hK.out _ _ ?_
  clear hK K
  refine done_ (by kernel_rfl) ?_
  have HBK := Lib.hid hBe
  have HZ := Lib.hid hz
  have HP := Lib.hid hP
  have HKge := Lib.hid hKge
  clear hBe hz hP hKge hK
  obtain ⟨W, hW⟩ : ∃ W, W = setL x4 K 0 [.int .u16 q.cons, .bool q.skip, .slice A1 q.vals.length c1, .int .i64 q.page, .slice A2 q.paging.length c2, .int .u16 q.serial, .bool false, .int .i64 0, .string ⟨#[]⟩] := ⟨_, rfl⟩
  have hW' := hW
  simp only [setL, Nat.zero_add, Nat.reduceAdd] at hW'
  rw [← hW']
  clear hW'
  have hS := setL_at [.int .u16 q.cons, .bool q.skip, .slice A1 q.vals.length c1, .int .i64 q.page, .slice A2 q.paging.length c2, .int .u16 q.serial, .bool false, .int .i64 0, .string ⟨#[]⟩] x4 0 _ HK.out
  have HKW : Hid (W.heap[K]? = some (.cells (kcells q A1 c1 A2 c2 false 0) 108 (0, 0))) := by
    rw [hW]
    refine Lib.hid (hS.trans ?_)
    simp only [setC, Nat.zero_add, Nat.reduceAdd, List.setIfInBounds_toArray, List.set_cons_zero, List.set_cons_succ]
  have HBW : Hid (Below w0.heap.size w0 W) := by rw [hW]; exact Lib.hid (setL_below HKge.out _ _ _ HBK.out)
  have HZW : Hid (VRow W w0.heap.size (.slice A1 q.vals.length c1) rs (q.vals.map qv)) := by rw [hW]; exact Lib.hid (HZ.out.setL HK.out (by decide) (by decide) _ _)
  have HPW : Hid (W.ownsRow w0.heap.size 5 1 (.slice A2 q.paging.length c2) q.paging.length (nums .u8 q.paging)) := by rw [hW]; exact Lib.hid (setL_own (own_ne HP.out HK.out (by decide)) _ _ _ HP.out)
  clear hW hS HBK HZ HP HK hf hq0 hq1 hq2 hq3 hq4 hq5 hq6 hq7 hq8 hHeld
  have hsz0 := HBA.out.size
  simp only [Exit.then]
  refine (‹∀ (a : Act) (w : World), Code.wp Tryz.prog _ _ a w → _›) _ _ ?_
  refine Hkk.out _ W K A1 c1 A2 c2 rs ?_ ⟨?_, HKW.out, blk_below HN1.out HBW.out, blk_below HN2.out HBW.out, ?_, HZW.out.lower HBA.out.size, own_weaken HPW.out HBA.out.size⟩
  · exact ⟨rfl, rfl, rfl, rfl, rfl, rfl⟩
  · exact below_then HBA.out HBA.out.size HBW.out
  · have h1 := HKge.out
    have h2 := blk_lt HN2.out
    omega
end Go.Proofs.YtammjbmfiakbnaaGreatDoor
