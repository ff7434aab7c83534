/-
  impl.params: the branch at a time. impl.params: the last statement.
-/
import Derived.Test.YtammjbmfiakbnaaGreatDoorU
namespace Go.Proofs.YtammjbmfiakbnaaGreatDoor
set_option maxHeartbeats 2000000
set_option maxRecDepth 100000
set_option linter.unusedSimpArgs false
set_option linter.unusedVariables false
open Go.RowKit Go.Proofs.YtammjbmfiakbnaaGreatDoorW.PrintWords Go.Proofs.YtammjbmfiakbnaaGreatDoorW.PrintLast Go.Proofs.YtammjbmfiakbnaaGreatDoorW.PrintMore
open Go.Proofs.YtammjbmfiakbnaaGreatDoor.PFnRequest
/-- The branch of impl.params at a time. -/
noncomputable def c41t : Code := match nth 2 (Tryz.f41.body.getD .skip) with | .seq _ (.cond _ c _) => c | _ => .skip
set_option maxHeartbeats 4000000 in
theorem r41t {KK' : Act → World → Prop} {R : Ending → World → Prop} (W : World) (q : IQ) (B1 B2 KB : Nat) (A1 A2 : Option Addr) (c1 c2 : Nat) (ad6 : Addr) (t0 : Int) (g : Nat → Value) (HK : Hid (W.heap[KB]? = some (.cells (kcells q A1 c1 A2 c2 false 0) 108 (0, 0))))
    (hS : Hid (W.cell? ⟨B1, 6, none⟩ = some (.slice (some ad6) q.ts.length q.c6) ∧ W.cell? ad6 = some (.int .i64 t0))) (hS5 : Hid ((W.setCell ⟨KB, 6, none⟩ (.bool true)).cell? ⟨B1, 6, none⟩ = some (.slice (some ad6) q.ts.length q.c6) ∧ (W.setCell ⟨KB, 6, none⟩ (.bool true)).cell? ad6 = some (.int .i64 t0))) (hlt : 0 < q.ts.length) (hk : ∀ a', I41 q B1 B2 KB a' → KK' a' ((W.setCell ⟨KB, 6, none⟩ (.bool true)).setCell ⟨KB, 7, none⟩ (.int .i64 t0)).drew) :
    Code.wp Tryz.prog c41t (Exit.then KK' (bodyPost Tryz.prog Tryz.f41 R)) ⟨#[.agg q.cells, .pointer (some ⟨B1, 0, none⟩), .pointer (some ⟨B2, 0, none⟩), g 3, .pointer (some ⟨KB, 0, none⟩), g 5, g 6, g 7, g 8, g 9, g 10, g 11, g 12, g 13, g 14, g 15, g 16, g 17, g 18, g 19, g 20, g 21, g 22, g 23, g 24, g 25, g 26, g 27, g 28, g 29, g 30, g 31, g 32, g 33, g 34, g 35, g 36, g 37, g 38, g 39, g 40, g 41, g 42, g 43, g 44, g 45, g 46, g 47, g 48, g 49, g 50, g 51, g 52], []⟩ W := by
  have Hkk := Lib.hid hk
  clear hk
  conv => arg 2; whnf
  go_upto_region 3 with (fail)
  refine start_ (n := 8) (S := fun w' => w'.cell? ⟨B1, 6, none⟩ = some (.slice (some ad6) q.ts.length q.c6) ∧ w'.cell? ad6 = some (.int .i64 t0)) (ds := [7]) #[false, false, false, false, false, false, false, false] (by kernel_rfl) rfl rfl ⟨hS.out.1, hS.out.2⟩ (fun hHeld => ?_)
  refine e_o 0 ?_
  refine e_o 4 ?_
  refine e_t 1 hHeld ?_
  refine e_o 2 ?_
  refine e_t 3 hHeld ?_
  refine one_ (i := 5) (N := none) #[true, true, true, true, true, true, false, false] rfl rfl (by kernel_rfl) (by decide) (fun K hK => ?_)
  have hz5 : W.cell? ⟨KB, 6, none⟩ = some (.bool false) := (cell_of_row _ _ 6 _ _ _ HK.out).trans rfl
  have hzf5 : W.frozen? ⟨KB, 6, none⟩ = false := blk_froz HK.out
  refine skip_ (w1 := ?_) (by rfl) rfl ?_ ?_
  rotate_left
  · go_simp
    rfl
  clear hz5 hzf5
  have HK5 := Lib.hid (blk_set HK.out 6 (.bool true))
  refine hK.out _ _ ⟨hS5.out.1, hS5.out.2⟩ (fun hHeld => ?_)
  clear hK K
  refine e_o 6 ?_
  refine last_ (i := 7) (N := none) #[true, true, true, true, true, true, true, true] rfl rfl (by kernel_rfl) (by decide) (fun K hK => ?_)
  have hz7 : (W.setCell ⟨KB, 6, none⟩ (.bool true)).cell? ⟨KB, 7, none⟩ = some (.int .i64 0) := (cell_of_row _ _ 7 _ _ _ HK5.out).trans rfl
  have hzf7 : (W.setCell ⟨KB, 6, none⟩ (.bool true)).frozen? ⟨KB, 7, none⟩ = false := blk_froz HK5.out
  refine skip_ (w1 := ?_) (by rfl) rfl ?_ ?_
  rotate_left
  · go_simp
    rfl
  refine hK.out _ _ ?_
  clear hK K
  refine done_ (by kernel_rfl) ?_
  exact Hkk.out _ ⟨rfl, rfl, rfl, rfl, rfl, rfl⟩
set_option maxHeartbeats 4000000 in
theorem r41 {KK' : Act → World → Prop} {R : Ending → World → Prop} (W : World) (q : IQ) (B1 B2 K : Nat) (A1 A2 : Option Addr) (c1 c2 : Nat) (h : Bool) (t : Int) (g : Nat → Value) (HK : Hid (W.heap[K]? = some (.cells (kcells q A1 c1 A2 c2 h t) 108 (0, 0)))) (HB1 : Hid (W.heap[B1]? = some (.cells q.cells 27 (0, 0)))) (HB2 : Hid (W.heap[B2]? = some (.cells zero108 108 (0, 0)))) (HneK : Hid (K ≠ B2)) (Hne1 : Hid (B1 ≠ B2))
    (he1 : (q.cons == wrap64 q.cons) = true) (he2 : (q.serial == wrap64 q.serial) = true) (hle : decide ((q.ts.length : Int) ≤ 1) = true)
    (hk : ∀ a' : Act, a'.defers = [] → a'.tmps.getD 2 undef = .pointer (some ⟨B2, 0, none⟩) → a'.tmps.getD 3 undef = .bool true → KK' a' (setL W B2 0 [.int .u16 q.cons, .bool q.skip, .slice A1 q.vals.length c1, .int .i64 q.page, .slice A2 q.paging.length c2, .int .u16 q.serial, .bool h, .int .i64 t, .string ⟨#[]⟩]).drew) : Code.wp Tryz.prog (c41 3) (Exit.then KK' (bodyPost Tryz.prog Tryz.f41 R)) ⟨#[.agg q.cells, .pointer (some ⟨B1, 0, none⟩), .pointer (some ⟨B2, 0, none⟩), g 3, .pointer (some ⟨K, 0, none⟩), g 5, g 6, g 7, g 8, g 9, g 10, g 11, g 12, g 13, g 14, g 15, g 16, g 17, g 18, g 19, g 20, g 21, g 22, g 23, g 24, g 25, g 26, g 27, g 28, g 29, g 30, g 31, g 32, g 33, g 34, g 35, g 36, g 37, g 38, g 39, g 40, g 41, g 42, g 43, g 44, g 45, g 46, g 47, g 48, g 49, g 50, g 51, g 52], []⟩ W := by
  have Hkk := Lib.hid hk
  clear hk
  conv => arg 2; whnf
  go_upto_region 4 with (fail)
  refine start_ (n := 23) (S := fun w' => w'.cell? ⟨K, 0, none⟩ = some (.int .u16 q.cons) ∧ w'.cell? ⟨K, 1, none⟩ = some (.bool q.skip) ∧ w'.cell? ⟨K, 2, none⟩ = some (.slice A1 q.vals.length c1) ∧ w'.cell? ⟨K, 3, none⟩ = some (.int .i64 q.page) ∧ w'.cell? ⟨K, 4, none⟩ = some (.slice A2 q.paging.length c2) ∧ w'.cell? ⟨K, 5, none⟩ = some (.int .u16 q.serial) ∧ w'.cell? ⟨K, 6, none⟩ = some (.bool h) ∧ w'.cell? ⟨K, 7, none⟩ = some (.int .i64 t) ∧ w'.cell? ⟨K, 8, none⟩ = some (.string ⟨#[]⟩) ∧ w'.cell? ⟨B1, 0, none⟩ = some (.int .i64 q.cons) ∧ w'.cell? ⟨B1, 5, none⟩ = some (.int .i64 q.serial) ∧ w'.cell? ⟨B1, 6, none⟩ = some (.slice q.A6 q.ts.length q.c6)) (ds := []) #[false, false, false, false, false, false, false, false, false, false, false, false, false, false, false, false, false, false, false, false, false, false, false] (by kernel_rfl) rfl rfl ⟨((cell_of_row _ _ 0 _ _ _ (blk_drew HK.out)).trans rfl), ((cell_of_row _ _ 1 _ _ _ (blk_drew HK.out)).trans rfl), ((cell_of_row _ _ 2 _ _ _ (blk_drew HK.out)).trans rfl), ((cell_of_row _ _ 3 _ _ _ (blk_drew HK.out)).trans rfl), ((cell_of_row _ _ 4 _ _ _ (blk_drew HK.out)).trans rfl), ((cell_of_row _ _ 5 _ _ _ (blk_drew HK.out)).trans rfl), ((cell_of_row _ _ 6 _ _ _ (blk_drew HK.out)).trans rfl), ((cell_of_row _ _ 7 _ _ _ (blk_drew HK.out)).trans rfl), ((cell_of_row _ _ 8 _ _ _ (blk_drew HK.out)).trans rfl), ((cell_of_row _ _ 0 _ _ _ (blk_drew HB1.out)).trans rfl), ((cell_of_row _ _ 5 _ _ _ (blk_drew HB1.out)).trans rfl), ((cell_of_row _ _ 6 _ _ _ (blk_drew HB1.out)).trans rfl)⟩ (fun hHeld => ?_)
  refine e_o 1 ?_
  refine e_o 3 ?_
  refine e_t 0 hHeld ?_
  refine e_t 2 hHeld ?_
  refine e_t 4 hHeld ?_
  refine e_o 5 ?_
  refine e_o 6 ?_
  refine e_o 7 ?_
  refine e_o 8 ?_
  refine e_o 10 ?_
  refine e_t 9 hHeld ?_
  refine e_t 11 hHeld ?_
  refine e_o 12 ?_
  refine e_o 13 ?_
  refine e_o 14 ?_
  refine e_o 15 ?_
  refine e_o 16 ?_
  refine e_t 17 hHeld ?_
  refine e_o 18 ?_
  refine e_o 19 ?_
  refine e_o 20 ?_
  refine one_ (i := 21) (N := none) #[true, true, true, true, true, true, true, true, true, true, true, true, true, true, true, true, true, true, true, true, true, true, false] rfl rfl (by kernel_rfl) (by decide) (fun K hK => ?_)
  have hz0 : W.cell? ⟨B2, 0, none⟩ = some (.int .u16 0) := (cell_of_row _ _ 0 _ _ _ HB2.out).trans rfl
  have hz1 : W.cell? ⟨B2, 1, none⟩ = some (.bool false) := (cell_of_row _ _ 1 _ _ _ HB2.out).trans rfl
  have hz2 : W.cell? ⟨B2, 2, none⟩ = some (.slice none 0 0) := (cell_of_row _ _ 2 _ _ _ HB2.out).trans rfl
  have hz3 : W.cell? ⟨B2, 3, none⟩ = some (.int .i64 0) := (cell_of_row _ _ 3 _ _ _ HB2.out).trans rfl
  have hz4 : W.cell? ⟨B2, 4, none⟩ = some (.slice none 0 0) := (cell_of_row _ _ 4 _ _ _ HB2.out).trans rfl
  have hz5 : W.cell? ⟨B2, 5, none⟩ = some (.int .u16 0) := (cell_of_row _ _ 5 _ _ _ HB2.out).trans rfl
  have hz6 : W.cell? ⟨B2, 6, none⟩ = some (.bool false) := (cell_of_row _ _ 6 _ _ _ HB2.out).trans rfl
  have hz7 : W.cell? ⟨B2, 7, none⟩ = some (.int .i64 0) := (cell_of_row _ _ 7 _ _ _ HB2.out).trans rfl
  have hz8 : W.cell? ⟨B2, 8, none⟩ = some (.string ⟨#[]⟩) := (cell_of_row _ _ 8 _ _ _ HB2.out).trans rfl
  have hzf : ∀ i, W.frozen? ⟨B2, i, none⟩ = false := fun i => blk_froz HB2.out
  refine skip_ (w1 := ?_) (by rfl) rfl ?_ ?_
  rotate_left
  · go_simp
    rfl
  clear hz0 hz1 hz2 hz3 hz4 hz5 hz6 hz7 hz8 hzf
  have h21K := setL_far (B := B2) HneK.out [.int .u16 q.cons, .bool q.skip, .slice A1 q.vals.length c1, .int .i64 q.page, .slice A2 q.paging.length c2, .int .u16 q.serial, .bool h, .int .i64 t, .string ⟨#[]⟩] W 0 HK.out
  simp only [setL, Nat.zero_add, Nat.reduceAdd] at h21K
  have HK21 := Lib.hid h21K
  clear h21K
  have h21B := setL_far (B := B2) Hne1.out [.int .u16 q.cons, .bool q.skip, .slice A1 q.vals.length c1, .int .i64 q.page, .slice A2 q.paging.length c2, .int .u16 q.serial, .bool h, .int .i64 t, .string ⟨#[]⟩] W 0 HB1.out
  simp only [setL, Nat.zero_add, Nat.reduceAdd] at h21B
  have HB21 := Lib.hid h21B
  clear h21B
  refine hK.out _ _ ⟨((cell_of_row _ _ 0 _ _ _ (blk_drew HK21.out)).trans rfl), ((cell_of_row _ _ 1 _ _ _ (blk_drew HK21.out)).trans rfl), ((cell_of_row _ _ 2 _ _ _ (blk_drew HK21.out)).trans rfl), ((cell_of_row _ _ 3 _ _ _ (blk_drew HK21.out)).trans rfl), ((cell_of_row _ _ 4 _ _ _ (blk_drew HK21.out)).trans rfl), ((cell_of_row _ _ 5 _ _ _ (blk_drew HK21.out)).trans rfl), ((cell_of_row _ _ 6 _ _ _ (blk_drew HK21.out)).trans rfl), ((cell_of_row _ _ 7 _ _ _ (blk_drew HK21.out)).trans rfl), ((cell_of_row _ _ 8 _ _ _ (blk_drew HK21.out)).trans rfl), ((cell_of_row _ _ 0 _ _ _ (blk_drew HB21.out)).trans rfl), ((cell_of_row _ _ 5 _ _ _ (blk_drew HB21.out)).trans rfl), ((cell_of_row _ _ 6 _ _ _ (blk_drew HB21.out)).trans rfl)⟩ (fun hHeld => ?_)
  clear hK K
  refine e_o 22 ?_
  refine done_ (by kernel_rfl) ?_
  have hk := Hkk.out
  simp only [setL, Nat.zero_add, Nat.reduceAdd] at hk
  exact hk _ rfl rfl rfl
end Go.Proofs.YtammjbmfiakbnaaGreatDoor
