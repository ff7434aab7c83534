/-
  impl.asked: the frame of a request, operation by operation. impl.asked: the frame of a request, operation by operation.
-/
import Derived.Test.YtammjbmfiakbnaaGreatDoorX
import Derived.Test.YtammjbmfiakbnaaGreatDoorR
namespace Go.Proofs.YtammjbmfiakbnaaGreatDoor
set_option maxHeartbeats 2000000
set_option maxRecDepth 100000
set_option linter.unusedSimpArgs false
set_option linter.unusedVariables false
open Go.RowKit Go.Proofs.YtammjbmfiakbnaaGreatDoorW.PrintWords Go.Proofs.YtammjbmfiakbnaaGreatDoorW.PrintLast Go.Proofs.YtammjbmfiakbnaaGreatDoorW.PrintMore
open Go.Proofs.YtammjbmfiakbnaaGreatDoor.PFnRequest
/-- A request as impl has it. -/
structure IR where
  op : Int
  Ao : Option Addr
  co : Nat
  opts : List S53
  text : ByteArray
  Ai : Option Addr
  ci : Nat
  id : List Int
  q : IQ
  Ae : Option Addr
  ce : Nat
  ev : List ByteArray
  batch : Int
  As : Option Addr
  cs : Nat
  sts : List S56
  Ad : Option Addr
  cd : Nat
  data : List Int
abbrev IR.cells (r : IR) : Array Value := #[.int .i64 r.op, .slice r.Ao r.opts.length r.co, .string r.text, .slice r.Ai r.id.length r.ci, .int .i64 r.q.cons, .bool r.q.skip, .slice r.q.A r.q.vals.length r.q.c, .int .i64 r.q.page, .slice r.q.A4 r.q.paging.length r.q.c4, .int .i64 r.q.serial, .slice r.q.A6 r.q.ts.length r.q.c6, .slice r.Ae r.ev.length r.ce, .int .i64 r.batch, .slice r.As r.sts.length r.cs, .slice r.Ad r.data.length r.cd]
/-- How it lies in memory. -/
def IR.In (w : World) (r : IR) : Prop := Kd.C k53 w r.Ao r.opts.length r.opts ∧ (Kd.int .u8).C w r.Ai r.id.length r.id ∧ r.q.In w ∧ Kd.C Kd.string w r.Ae r.ev.length r.ev ∧ Kd.C k56 w r.As r.sts.length r.sts ∧ (Kd.int .u8).C w r.Ad r.data.length r.data
theorem IQ.In.below_ {w w1 : World} {q : IQ} (h : q.In w) (hb : Below w.heap.size w w1) : q.In w1 := ⟨Kd.C_below h.1 hb, Kd.C_below h.2.1 hb, Kd.C_below h.2.2 hb⟩
theorem IR.In.below_ {w w1 : World} {r : IR} (h : r.In w) (hb : Below w.heap.size w w1) : r.In w1 := ⟨Kd.C_below h.1 hb, Kd.C_below h.2.1 hb, h.2.2.1.below_ hb, Kd.C_below h.2.2.2.1 hb, Kd.C_below h.2.2.2.2.1 hb, Kd.C_below h.2.2.2.2.2 hb⟩
theorem asked_options (w : World) (p s : Int) (r : IR) (hp : p = 3 ∨ p = 4) (hq : r.q.ok) (hI : r.In w) (hop : r.op = 5) :
    Calls Tryz.prog 23 #[.int .u8 p, .int .i64 s, .agg r.cells] w fun e w' => ∃ v, e = .returned (.tuple #[v, .bool true, .nilIface]) ∧ Out w w' v (frame p r.op s ([])) := by
  have HB := Lib.hid (below_alloc (Below.refl w.heap.size w) (.cells r.cells 31))
  have HK := Lib.hid (heap_alloc_new w (.cells r.cells 31))
  have HI := Lib.hid (hI.below_ HB.out)
  have Hq := Lib.hid hq
  clear hI hq
  obtain ⟨op, Ao, co, opts, text, Ai, ci, id, q, Ae, ce, ev, batch, As, cs, sts, Ad, cd, data⟩ := r
  simp only at hop HB HK HI Hq 
  subst hop
  go_enter Tryz.func23, Tryz.ntmps23
  go_wp2_with fail
  refine (params_any _ q Hq.out HI.out.2.2.1).mono ?_
  rintro e w1 ⟨A1, c1, A2, c2, rs, rfl, hb, hZ, hRQ, hP⟩
  have HB1 := Lib.hid (below_then HB.out HB.out.size hb)
  have HI1 := Lib.hid (HI.out.below_ hb)
  have HK1 := Lib.hid (blk_below HK.out hb)
  have HBn := Lib.hid (below_alloc (Below.refl w1.heap.size w1) (.cells (pAgg q.qp A1 q.vals.length c1 A2 c2) 108))
  have HB2 := Lib.hid (below_then HB1.out HB1.out.size HBn.out)
  have HI2 := Lib.hid (HI1.out.below_ HBn.out)
  have HK2 := Lib.hid (blk_alloc HK1.out (.cells (pAgg q.qp A1 q.vals.length c1 A2 c2) 108))
  have HZ2 := Lib.hid (hZ.below_ HBn.out)
  have HR2 := Lib.hid (hRQ.below_ HBn.out)
  have HP2 := Lib.hid (hP.below HBn.out)
  have HQ2 := Lib.hid (heap_alloc_new w1 (.cells (pAgg q.qp A1 q.vals.length c1 A2 c2) 108))
  clear hb hZ hRQ hP HI HK HB
  have k0 := (cell_of_row _ _ 0 _ _ _ HK2.out).trans rfl
  go_wp2_with fail
  refine (zz_options _ p s hp).mono ?_
  rintro e w2 ⟨v, rfl, hO⟩
  go_wp2_with fail
  go_ret3
  exact ⟨v, rfl, hO.lower HB2.out⟩
theorem asked_prepare (w : World) (p s : Int) (r : IR) (hp : p = 3 ∨ p = 4) (hq : r.q.ok) (hI : r.In w) (hop : r.op = 9) (ht : r.text.size ≤ 100) :
    Calls Tryz.prog 23 #[.int .u8 p, .int .i64 s, .agg r.cells] w fun e w' => ∃ v, e = .returned (.tuple #[v, .bool true, .nilIface]) ∧ Out w w' v (frame p r.op s (be 4 r.text.size ++ bytesOf r.text)) := by
  have HB := Lib.hid (below_alloc (Below.refl w.heap.size w) (.cells r.cells 31))
  have HK := Lib.hid (heap_alloc_new w (.cells r.cells 31))
  have HI := Lib.hid (hI.below_ HB.out)
  have Hq := Lib.hid hq
  clear hI hq
  obtain ⟨op, Ao, co, opts, text, Ai, ci, id, q, Ae, ce, ev, batch, As, cs, sts, Ad, cd, data⟩ := r
  simp only at hop HB HK HI Hq ht
  subst hop
  go_enter Tryz.func23, Tryz.ntmps23
  go_wp2_with fail
  refine (params_any _ q Hq.out HI.out.2.2.1).mono ?_
  rintro e w1 ⟨A1, c1, A2, c2, rs, rfl, hb, hZ, hRQ, hP⟩
  have HB1 := Lib.hid (below_then HB.out HB.out.size hb)
  have HI1 := Lib.hid (HI.out.below_ hb)
  have HK1 := Lib.hid (blk_below HK.out hb)
  have HBn := Lib.hid (below_alloc (Below.refl w1.heap.size w1) (.cells (pAgg q.qp A1 q.vals.length c1 A2 c2) 108))
  have HB2 := Lib.hid (below_then HB1.out HB1.out.size HBn.out)
  have HI2 := Lib.hid (HI1.out.below_ HBn.out)
  have HK2 := Lib.hid (blk_alloc HK1.out (.cells (pAgg q.qp A1 q.vals.length c1 A2 c2) 108))
  have HZ2 := Lib.hid (hZ.below_ HBn.out)
  have HR2 := Lib.hid (hRQ.below_ HBn.out)
  have HP2 := Lib.hid (hP.below HBn.out)
  have HQ2 := Lib.hid (heap_alloc_new w1 (.cells (pAgg q.qp A1 q.vals.length c1 A2 c2) 108))
  clear hb hZ hRQ hP HI HK HB
  have k0 := (cell_of_row _ _ 0 _ _ _ HK2.out).trans rfl
  have k2 := (cell_of_row _ _ 2 _ _ _ HK2.out).trans rfl
  go_wp2_with fail
  refine (zz_prepare _ p s text ht hp).mono ?_
  rintro e w2 ⟨v, rfl, hO⟩
  go_wp2_with fail
  go_ret3
  exact ⟨v, rfl, hO.lower HB2.out⟩
theorem asked_query (w : World) (p s : Int) (r : IR) (hp : p = 3 ∨ p = 4) (hq : r.q.ok) (hI : r.In w) (hop : r.op = 7) (ht : r.text.size ≤ 100) (hqp : r.q.qp.ok) :
    Calls Tryz.prog 23 #[.int .u8 p, .int .i64 s, .agg r.cells] w fun e w' => ∃ v, e = .returned (.tuple #[v, .bool true, .nilIface]) ∧ Out w w' v (frame p r.op s (be 4 r.text.size ++ bytesOf r.text ++ qbytes r.q.qp)) := by
  have HB := Lib.hid (below_alloc (Below.refl w.heap.size w) (.cells r.cells 31))
  have HK := Lib.hid (heap_alloc_new w (.cells r.cells 31))
  have HI := Lib.hid (hI.below_ HB.out)
  have Hq := Lib.hid hq
  clear hI hq
  obtain ⟨op, Ao, co, opts, text, Ai, ci, id, q, Ae, ce, ev, batch, As, cs, sts, Ad, cd, data⟩ := r
  simp only at hop HB HK HI Hq ht hqp
  subst hop
  go_enter Tryz.func23, Tryz.ntmps23
  go_wp2_with fail
  refine (params_any _ q Hq.out HI.out.2.2.1).mono ?_
  rintro e w1 ⟨A1, c1, A2, c2, rs, rfl, hb, hZ, hRQ, hP⟩
  have HB1 := Lib.hid (below_then HB.out HB.out.size hb)
  have HI1 := Lib.hid (HI.out.below_ hb)
  have HK1 := Lib.hid (blk_below HK.out hb)
  have HBn := Lib.hid (below_alloc (Below.refl w1.heap.size w1) (.cells (pAgg q.qp A1 q.vals.length c1 A2 c2) 108))
  have HB2 := Lib.hid (below_then HB1.out HB1.out.size HBn.out)
  have HI2 := Lib.hid (HI1.out.below_ HBn.out)
  have HK2 := Lib.hid (blk_alloc HK1.out (.cells (pAgg q.qp A1 q.vals.length c1 A2 c2) 108))
  have HZ2 := Lib.hid (hZ.below_ HBn.out)
  have HR2 := Lib.hid (hRQ.below_ HBn.out)
  have HP2 := Lib.hid (hP.below HBn.out)
  have HQ2 := Lib.hid (heap_alloc_new w1 (.cells (pAgg q.qp A1 q.vals.length c1 A2 c2) 108))
  clear hb hZ hRQ hP HI HK HB
  have k0 := (cell_of_row _ _ 0 _ _ _ HK2.out).trans rfl
  have k2 := (cell_of_row _ _ 2 _ _ _ HK2.out).trans rfl
  have hvl : rs.length = q.vals.length := by have h := HR2.out.1; rw [List.length_map] at h; exact h
  have hc := zz_query (w1.alloc (.cells (pAgg q.qp A1 q.vals.length c1 A2 c2) 108)) p s text ht q.qp A1 A2 c1 c2 rs hp hqp HZ2.out HR2.out HP2.out
  rw [hvl] at hc
  have Hc := Lib.hid hc
  clear hc hvl hqp
  go_wp2_with fail
  refine Hc.out.mono ?_
  rintro e w2 ⟨v, rfl, hO⟩
  go_wp2_with fail
  go_ret3
  exact ⟨v, rfl, hO.lower HB2.out⟩
/-- An empty row that was just made. -/
theorem own_empty (w : World) (e base : Nat) (size : Nat) (hb : base ≤ w.heap.size) : (w.alloc (.cells #[] e)).ownsRow base e size (.slice (some ⟨w.heap.size, 0, none⟩) 0 0) 0 [] := ⟨by simp, .inr ⟨_, 0, #[], rfl, hb, heap_alloc_new _ _, Nat.le_refl _, by simp [maxLen], by simp, by simp⟩⟩
theorem asked_auth (w : World) (p s : Int) (r : IR) (hp : p = 3 ∨ p = 4) (hq : r.q.ok) (hI : r.In w) (hop : r.op = 15) (hd : r.data.length ≤ 100) :
    Calls Tryz.prog 23 #[.int .u8 p, .int .i64 s, .agg r.cells] w fun e w' => ∃ v, e = .returned (.tuple #[v, .bool true, .nilIface]) ∧ Out w w' v (frame p r.op s (be 4 r.data.length ++ r.data)) := by
  have HB := Lib.hid (below_alloc (Below.refl w.heap.size w) (.cells r.cells 31))
  have HK := Lib.hid (heap_alloc_new w (.cells r.cells 31))
  have HI := Lib.hid (hI.below_ HB.out)
  have Hq := Lib.hid hq
  clear hI hq
  obtain ⟨op, Ao, co, opts, text, Ai, ci, id, q, Ae, ce, ev, batch, As, cs, sts, Ad, cd, data⟩ := r
  simp only at hop HB HK HI Hq hd
  subst hop
  go_enter Tryz.func23, Tryz.ntmps23
  go_wp2_with fail
  refine (params_any _ q Hq.out HI.out.2.2.1).mono ?_
  rintro e w1 ⟨A1, c1, A2, c2, rs, rfl, hb, hZ, hRQ, hP⟩
  have HB1 := Lib.hid (below_then HB.out HB.out.size hb)
  have HI1 := Lib.hid (HI.out.below_ hb)
  have HK1 := Lib.hid (blk_below HK.out hb)
  have HBn := Lib.hid (below_alloc (Below.refl w1.heap.size w1) (.cells (pAgg q.qp A1 q.vals.length c1 A2 c2) 108))
  have HB2 := Lib.hid (below_then HB1.out HB1.out.size HBn.out)
  have HI2 := Lib.hid (HI1.out.below_ HBn.out)
  have HK2 := Lib.hid (blk_alloc HK1.out (.cells (pAgg q.qp A1 q.vals.length c1 A2 c2) 108))
  have HZ2 := Lib.hid (hZ.below_ HBn.out)
  have HR2 := Lib.hid (hRQ.below_ HBn.out)
  have HP2 := Lib.hid (hP.below HBn.out)
  have HQ2 := Lib.hid (heap_alloc_new w1 (.cells (pAgg q.qp A1 q.vals.length c1 A2 c2) 108))
  clear hb hZ hRQ hP HI HK HB
  have k0 := (cell_of_row _ _ 0 _ _ _ HK2.out).trans rfl
  have HO3 := Lib.hid (own_empty (w1.alloc (.cells (pAgg q.qp A1 q.vals.length c1 A2 c2) 108)) 5 w1.heap.size 1 (by simp))
  have HLn := Lib.hid (below_alloc (Below.refl (w1.alloc (.cells (pAgg q.qp A1 q.vals.length c1 A2 c2) 108)).heap.size _) (.cells #[] 5))
  have HL5 := Lib.hid (below_then HBn.out HBn.out.size HLn.out)
  have HI5 := Lib.hid (HI2.out.below_ HLn.out)
  have hsz : (w1.alloc (.cells (pAgg q.qp A1 q.vals.length c1 A2 c2) 108)).heap.size = w1.heap.size + 1 := by simp
  rw [hsz] at HO3
  clear hsz
  have k14 := (cell_of_row _ _ 14 _ _ _ (blk_alloc HK2.out (.cells #[] 5))).trans rfl
  go_wp2_with (at_builtin; refine app_list rfl (.tmp 128) (.tmp 130) 23 23 rfl (.slice (some ⟨w1.heap.size + 1, 0, none⟩) 0 0) _ rfl rfl (ap_row2 23 _ Tryz.underlying23 _ [] data Ad _ cd HO3.out (ints_of HI5.out.2.2.2.2.2) HL5.out.size (by simp only [List.length_nil]; omega)) ?_; rintro vd w4 ⟨⟨hownd, hgd⟩, hnn⟩; obtain ⟨Ad2, md, cd2, rfl⟩ := own_form hownd)
  have hform : ∃ g, Ad2 = some ⟨g, 0, none⟩ ∧ md = data.length := by
    rw [List.nil_append] at hownd
    rcases hownd.2 with ⟨h, _⟩ | ⟨g, cap, cur, h, _⟩
    · exact absurd (hnn h) (by simp)
    · cases h; exact ⟨g, rfl, rfl⟩
  obtain ⟨gd, rfl, rfl⟩ := hform
  rw [List.nil_append] at hownd
  have hl4 : Below w1.heap.size w1 w4 := pw_below_grown HL5.out _ HL5.out.size hgd (fun k hk => own_base HO3.out k hk)
  refine (zz_auth w4 p s ⟨gd, 0, none⟩ cd2 data hd (own_reads' hownd) hp).mono ?_
  rintro e w5 ⟨v, rfl, hO⟩
  have HB4 := Lib.hid (below_then HB1.out HB1.out.size hl4)
  clear hownd hgd hnn hl4
  go_wp2_with fail
  go_ret3
  exact ⟨v, rfl, hO.lower HB4.out⟩
theorem asked_execute (w : World) (p s : Int) (r : IR) (hp : p = 3 ∨ p = 4) (hq : r.q.ok) (hI : r.In w) (hop : r.op = 10) (hs : r.id.length ≤ 100) (hqp : r.q.qp.ok) :
    Calls Tryz.prog 23 #[.int .u8 p, .int .i64 s, .agg r.cells] w fun e w' => ∃ v, e = .returned (.tuple #[v, .bool true, .nilIface]) ∧ Out w w' v (frame p r.op s (be 2 r.id.length ++ r.id ++ qbytes r.q.qp)) := by
  have HB := Lib.hid (below_alloc (Below.refl w.heap.size w) (.cells r.cells 31))
  have HK := Lib.hid (heap_alloc_new w (.cells r.cells 31))
  have HI := Lib.hid (hI.below_ HB.out)
  have Hq := Lib.hid hq
  clear hI hq
  obtain ⟨op, Ao, co, opts, text, Ai, ci, id, q, Ae, ce, ev, batch, As, cs, sts, Ad, cd, data⟩ := r
  simp only at hop HB HK HI Hq hs hqp
  subst hop
  go_enter Tryz.func23, Tryz.ntmps23
  go_wp2_with fail
  refine (params_any _ q Hq.out HI.out.2.2.1).mono ?_
  rintro e w1 ⟨A1, c1, A2, c2, rs, rfl, hb, hZ, hRQ, hP⟩
  have HB1 := Lib.hid (below_then HB.out HB.out.size hb)
  have HI1 := Lib.hid (HI.out.below_ hb)
  have HK1 := Lib.hid (blk_below HK.out hb)
  have HBn := Lib.hid (below_alloc (Below.refl w1.heap.size w1) (.cells (pAgg q.qp A1 q.vals.length c1 A2 c2) 108))
  have HB2 := Lib.hid (below_then HB1.out HB1.out.size HBn.out)
  have HI2 := Lib.hid (HI1.out.below_ HBn.out)
  have HK2 := Lib.hid (blk_alloc HK1.out (.cells (pAgg q.qp A1 q.vals.length c1 A2 c2) 108))
  have HZ2 := Lib.hid (hZ.below_ HBn.out)
  have HR2 := Lib.hid (hRQ.below_ HBn.out)
  have HP2 := Lib.hid (hP.below HBn.out)
  have HQ2 := Lib.hid (heap_alloc_new w1 (.cells (pAgg q.qp A1 q.vals.length c1 A2 c2) 108))
  clear hb hZ hRQ hP HI HK HB
  have k0 := (cell_of_row _ _ 0 _ _ _ HK2.out).trans rfl
  have Hvl : Hid (rs.length = q.vals.length) := by have h := HR2.out.1; rw [List.length_map] at h; exact h
  have Hqp := Lib.hid hqp
  clear hqp
  go_upto_region 23 with (fail)
  clear k0
  have HBn2 := HBn
  clear HBn HI1 HK1
  generalize hwq : w1.alloc _ = wq at *
  clear hwq
  refine start_ (n := 12) (S := fun w' => w'.cell? ⟨w.heap.size, 3, none⟩ = some (.slice Ai id.length ci) ∧ w'.cell? ⟨w1.heap.size, 0, none⟩ = some (.int .u16 q.qp.cons) ∧ w'.cell? ⟨w1.heap.size, 1, none⟩ = some (.bool q.qp.skip) ∧ w'.cell? ⟨w1.heap.size, 2, none⟩ = some (.slice A1 q.vals.length c1) ∧ w'.cell? ⟨w1.heap.size, 3, none⟩ = some (.int .i64 q.qp.page) ∧ w'.cell? ⟨w1.heap.size, 4, none⟩ = some (.slice A2 q.qp.paging.length c2) ∧ w'.cell? ⟨w1.heap.size, 5, none⟩ = some (.int .u16 q.qp.serial) ∧ w'.cell? ⟨w1.heap.size, 6, none⟩ = some (.bool q.qp.hasT) ∧ w'.cell? ⟨w1.heap.size, 7, none⟩ = some (.int .i64 q.qp.t) ∧ w'.cell? ⟨w1.heap.size, 8, none⟩ = some (.string ⟨#[]⟩)) (ds := []) #[false, false, false, false, false, false, false, false, false, false, false, false] (by kernel_rfl) rfl rfl ⟨((cell_of_row _ _ 3 _ _ _ (blk_drew HK2.out)).trans rfl), ((cell_of_row _ _ 0 _ _ _ (blk_drew HQ2.out)).trans rfl), ((cell_of_row _ _ 1 _ _ _ (blk_drew HQ2.out)).trans rfl), ((cell_of_row _ _ 2 _ _ _ (blk_drew HQ2.out)).trans rfl), ((cell_of_row _ _ 3 _ _ _ (blk_drew HQ2.out)).trans rfl), ((cell_of_row _ _ 4 _ _ _ (blk_drew HQ2.out)).trans rfl), ((cell_of_row _ _ 5 _ _ _ (blk_drew HQ2.out)).trans rfl), ((cell_of_row _ _ 6 _ _ _ (blk_drew HQ2.out)).trans rfl), ((cell_of_row _ _ 7 _ _ _ (blk_drew HQ2.out)).trans rfl), ((cell_of_row _ _ 8 _ _ _ (blk_drew HQ2.out)).trans rfl)⟩ (fun hHeld => ?_)
  refine e_o 0 ?_
  refine e_o 1 ?_
  refine e_o 2 ?_
  refine e_t 3 hHeld ?_
  refine e_t 5 hHeld ?_
  refine one_ (i := 4) (N := some 85) #[true, true, true, true, true, true, false, false, false, false, false, false] rfl rfl (by kernel_rfl) (by decide) (fun K hK => ?_)
  refine app_step (E := _) rfl (.const (.slice none 0 0)) (.tmp 84) 23 23 rfl (.slice none 0 0) _ rfl rfl (ap_row2 23 _ Tryz.underlying23 _ [] id Ai _ ci (own_nil _ wq.drew.heap.size _ _) (ints_of (Kd.C_below HI2.out.2.1 (Below.refl _ _).drew)) (Nat.le_refl _) (by simp only [List.length_nil]; omega)) ?_
  rintro vi x1 ⟨⟨howni, hgi⟩, _⟩
  have hb1 := grown_nil hgi rfl
  rw [List.nil_append] at howni
  obtain ⟨Ai2, mi2, ci2, rfl⟩ := own_form howni
  have hm2 : mi2 = id.length := own_len howni
  subst hm2
  have HI3 := Lib.hid (own_reads' howni)
  have HK3 := Lib.hid (blk_below (blk_drew HK2.out) hb1)
  have HQ3 := Lib.hid (blk_below (blk_drew HQ2.out) hb1)
  have HB3 := Lib.hid (below_then HB2.out.drew HB2.out.size hb1)
  have HZ3 := Lib.hid ((HZ2.out.below_ (Below.refl _ _).drew).below_ hb1)
  have HR3 := Lib.hid ((HR2.out.below_ (Below.refl _ _).drew).below_ hb1)
  have HP3 := Lib.hid ((HP2.out.below (Below.refl _ _).drew).below hb1)
  clear hb1 howni hgi
  refine hK.out _ _ ⟨((cell_of_row _ _ 3 _ _ _ HK3.out).trans rfl), ((cell_of_row _ _ 0 _ _ _ HQ3.out).trans rfl), ((cell_of_row _ _ 1 _ _ _ HQ3.out).trans rfl), ((cell_of_row _ _ 2 _ _ _ HQ3.out).trans rfl), ((cell_of_row _ _ 3 _ _ _ HQ3.out).trans rfl), ((cell_of_row _ _ 4 _ _ _ HQ3.out).trans rfl), ((cell_of_row _ _ 5 _ _ _ HQ3.out).trans rfl), ((cell_of_row _ _ 6 _ _ _ HQ3.out).trans rfl), ((cell_of_row _ _ 7 _ _ _ HQ3.out).trans rfl), ((cell_of_row _ _ 8 _ _ _ HQ3.out).trans rfl)⟩ (fun hHeld => ?_)
  clear hK K
  refine norm_ (a' := ?_) ?_ ?_
  rotate_left
  · show Act.put _ (some 85) _ = _
    simp only [Act.put, List.setIfInBounds_toArray, List.set_cons_zero, List.set_cons_succ, i64_w, i32_w]
    rfl
  refine one_ (i := 6) (N := some 87) #[true, true, true, true, true, true, true, false, false, false, false, false] rfl rfl (by kernel_rfl) (by decide) (fun K hK => ?_)
  have hc := zz_execute x1 p s id Ai2 ci2 hs HI3.out q.qp A1 A2 c1 c2 rs hp Hqp.out HZ3.out HR3.out HP3.out
  rw [Hvl.out] at hc
  refine goes_ Tryz.func46 (by kernel_rfl) rfl #[.int .u8 p, .int .i64 s, .slice Ai2 id.length ci2, .agg (pAgg q.qp A1 q.vals.length c1 A2 c2), .map none] (by rfl) rfl rfl (by simp only [List.map_toArray, List.map_cons, List.map_nil]; rfl) ?_
  with_reducible refine (hc).mono ?_
  rintro e x2 ⟨v, rfl, hO⟩
  refine ⟨_, rfl, ?_⟩
  have HO := Lib.hid (hO.lower HB3.out)
  have hb4 := hO.1
  have HK4 := Lib.hid (blk_below HK3.out hb4)
  have HQ4 := Lib.hid (blk_below HQ3.out hb4)
  clear hO hb4 hc
  refine hK.out _ _ ⟨((cell_of_row _ _ 3 _ _ _ HK4.out).trans rfl), ((cell_of_row _ _ 0 _ _ _ HQ4.out).trans rfl), ((cell_of_row _ _ 1 _ _ _ HQ4.out).trans rfl), ((cell_of_row _ _ 2 _ _ _ HQ4.out).trans rfl), ((cell_of_row _ _ 3 _ _ _ HQ4.out).trans rfl), ((cell_of_row _ _ 4 _ _ _ HQ4.out).trans rfl), ((cell_of_row _ _ 5 _ _ _ HQ4.out).trans rfl), ((cell_of_row _ _ 6 _ _ _ HQ4.out).trans rfl), ((cell_of_row _ _ 7 _ _ _ HQ4.out).trans rfl), ((cell_of_row _ _ 8 _ _ _ HQ4.out).trans rfl)⟩ (fun hHeld => ?_)
  clear hK K
  refine norm_ (a' := ?_) ?_ ?_
  rotate_left
  · show Act.put _ (some 87) _ = _
    simp only [Act.put, List.setIfInBounds_toArray, List.set_cons_zero, List.set_cons_succ, i64_w, i32_w]
    rfl
  refine e_o 7 ?_
  refine e_o 8 ?_
  refine e_o 9 ?_
  refine e_o 10 ?_
  refine e_o 11 ?_
  refine done_ (by kernel_rfl) ?_
  clear hHeld HQ4 HK4 HQ3 HK3 HI3 HB3 HZ3 HR3 HP3
  go_wp2_with fail
  go_ret3
  exact ⟨v, rfl, HO.out⟩
theorem asked_batch (w : World) (p s : Int) (r : IR) (hp : p = 3 ∨ p = 4) (hq : r.q.ok) (hI : r.In w) (hop : r.op = 13) (hb0 : 0 ≤ r.batch) (hb2 : r.batch ≤ 2) (hN : r.sts.length ≤ 10) (hd : ∀ x ∈ r.sts, x.f1.length ≤ 100 ∧ x.f2.length ≤ 20 ∧ ∀ y ∈ x.f2, y.f3.length ≤ 100) (hok : ∀ x ∈ r.sts.map sv, x.ok) :
    Calls Tryz.prog 23 #[.int .u8 p, .int .i64 s, .agg r.cells] w fun e w' => ∃ v, e = .returned (.tuple #[v, .bool true, .nilIface]) ∧ Out w w' v (frame p r.op s (bbytes r.batch (r.sts.map sv) r.q.qp)) := by
  have HB := Lib.hid (below_alloc (Below.refl w.heap.size w) (.cells r.cells 31))
  have HK := Lib.hid (heap_alloc_new w (.cells r.cells 31))
  have HI := Lib.hid (hI.below_ HB.out)
  have Hq := Lib.hid hq
  clear hI hq
  obtain ⟨op, Ao, co, opts, text, Ai, ci, id, q, Ae, ce, ev, batch, As, cs, sts, Ad, cd, data⟩ := r
  simp only at hop HB HK HI Hq hb0 hb2 hN hd hok
  subst hop
  go_enter Tryz.func23, Tryz.ntmps23
  go_wp2_with fail
  refine (params_any _ q Hq.out HI.out.2.2.1).mono ?_
  rintro e w1 ⟨A1, c1, A2, c2, rs, rfl, hb, hZ, hRQ, hP⟩
  have HB1 := Lib.hid (below_then HB.out HB.out.size hb)
  have HI1 := Lib.hid (HI.out.below_ hb)
  have HK1 := Lib.hid (blk_below HK.out hb)
  have HBn := Lib.hid (below_alloc (Below.refl w1.heap.size w1) (.cells (pAgg q.qp A1 q.vals.length c1 A2 c2) 108))
  have HB2 := Lib.hid (below_then HB1.out HB1.out.size HBn.out)
  have HI2 := Lib.hid (HI1.out.below_ HBn.out)
  have HK2 := Lib.hid (blk_alloc HK1.out (.cells (pAgg q.qp A1 q.vals.length c1 A2 c2) 108))
  have HZ2 := Lib.hid (hZ.below_ HBn.out)
  have HR2 := Lib.hid (hRQ.below_ HBn.out)
  have HP2 := Lib.hid (hP.below HBn.out)
  have HQ2 := Lib.hid (heap_alloc_new w1 (.cells (pAgg q.qp A1 q.vals.length c1 A2 c2) 108))
  clear hb hZ hRQ hP HI HK HB
  have k0 := (cell_of_row _ _ 0 _ _ _ HK2.out).trans rfl
  have k12 := (cell_of_row _ _ 12 _ _ _ HK2.out).trans rfl
  have hwb : IntKind.u8.wrap batch = batch := by rw [IntKind.wrap_u8]; omega
  have Hd := Lib.hid hd
  have Hok := Lib.hid hok
  clear hd hok
  go_upto_region 29 with (fail)
  clear k0 k12
  clear HBn HI1 HK1
  generalize hwq : w1.alloc _ = wq at *
  clear hwq
  have HSt : Hid (Kd.C k56 wq.drew As sts.length sts) := Lib.hid (Kd.C_below HI2.out.2.2.2.2.1 (Below.refl _ _).drew)
  refine start_ (n := 15) (S := fun w' => w'.cell? ⟨w.heap.size, 12, none⟩ = some (.int .i64 batch) ∧ w'.cell? ⟨w.heap.size, 13, none⟩ = some (.slice As sts.length cs) ∧ w'.cell? ⟨w1.heap.size, 0, none⟩ = some (.int .u16 q.qp.cons) ∧ w'.cell? ⟨w1.heap.size, 1, none⟩ = some (.bool q.qp.skip) ∧ w'.cell? ⟨w1.heap.size, 2, none⟩ = some (.slice A1 q.vals.length c1) ∧ w'.cell? ⟨w1.heap.size, 3, none⟩ = some (.int .i64 q.qp.page) ∧ w'.cell? ⟨w1.heap.size, 4, none⟩ = some (.slice A2 q.qp.paging.length c2) ∧ w'.cell? ⟨w1.heap.size, 5, none⟩ = some (.int .u16 q.qp.serial) ∧ w'.cell? ⟨w1.heap.size, 6, none⟩ = some (.bool q.qp.hasT) ∧ w'.cell? ⟨w1.heap.size, 7, none⟩ = some (.int .i64 q.qp.t) ∧ w'.cell? ⟨w1.heap.size, 8, none⟩ = some (.string ⟨#[]⟩)) (ds := []) #[false, false, false, false, false, false, false, false, false, false, false, false, false, false, false] (by kernel_rfl) rfl rfl ⟨((cell_of_row _ _ 12 _ _ _ (blk_drew HK2.out)).trans rfl), ((cell_of_row _ _ 13 _ _ _ (blk_drew HK2.out)).trans rfl), ((cell_of_row _ _ 0 _ _ _ (blk_drew HQ2.out)).trans rfl), ((cell_of_row _ _ 1 _ _ _ (blk_drew HQ2.out)).trans rfl), ((cell_of_row _ _ 2 _ _ _ (blk_drew HQ2.out)).trans rfl), ((cell_of_row _ _ 3 _ _ _ (blk_drew HQ2.out)).trans rfl), ((cell_of_row _ _ 4 _ _ _ (blk_drew HQ2.out)).trans rfl), ((cell_of_row _ _ 5 _ _ _ (blk_drew HQ2.out)).trans rfl), ((cell_of_row _ _ 6 _ _ _ (blk_drew HQ2.out)).trans rfl), ((cell_of_row _ _ 7 _ _ _ (blk_drew HQ2.out)).trans rfl), ((cell_of_row _ _ 8 _ _ _ (blk_drew HQ2.out)).trans rfl)⟩ (fun hHeld => ?_)
  refine e_o 0 ?_
  refine e_o 1 ?_
  refine e_o 2 ?_
  refine e_o 5 ?_
  refine e_t 3 hHeld ?_
  refine e_o 4 ?_
  refine e_t 6 hHeld ?_
  refine e_t 8 hHeld ?_
  refine one_ (i := 7) (N := some 118) #[true, true, true, true, true, true, true, true, true, false, false, false, false, false, false] rfl rfl (by kernel_rfl) (by decide) (fun K hK => ?_)
  refine goes_ Tryz.func50 (by kernel_rfl) rfl #[.slice As sts.length cs] (by rfl) rfl rfl (by simp only [List.map_toArray, List.map_cons, List.map_nil]; rfl) ?_
  with_reducible refine (statements_any _ As cs sts HSt.out hN Hd.out).mono ?_
  rintro e x1 ⟨As2, cs2, zs, rfl, hb1, hzr, hzq⟩
  refine ⟨_, rfl, ?_⟩
  have HZS := Lib.hid hzr
  have HZQ := Lib.hid hzq
  have HK3 := Lib.hid (blk_below (blk_drew HK2.out) hb1)
  have HQ3 := Lib.hid (blk_below (blk_drew HQ2.out) hb1)
  have HB3 := Lib.hid (below_then HB2.out.drew HB2.out.size hb1)
  clear hb1 hzr hzq
  refine hK.out _ _ ⟨((cell_of_row _ _ 12 _ _ _ HK3.out).trans rfl), ((cell_of_row _ _ 13 _ _ _ HK3.out).trans rfl), ((cell_of_row _ _ 0 _ _ _ HQ3.out).trans rfl), ((cell_of_row _ _ 1 _ _ _ HQ3.out).trans rfl), ((cell_of_row _ _ 2 _ _ _ HQ3.out).trans rfl), ((cell_of_row _ _ 3 _ _ _ HQ3.out).trans rfl), ((cell_of_row _ _ 4 _ _ _ HQ3.out).trans rfl), ((cell_of_row _ _ 5 _ _ _ HQ3.out).trans rfl), ((cell_of_row _ _ 6 _ _ _ HQ3.out).trans rfl), ((cell_of_row _ _ 7 _ _ _ HQ3.out).trans rfl), ((cell_of_row _ _ 8 _ _ _ HQ3.out).trans rfl)⟩ (fun hHeld => ?_)
  clear hK K
  refine norm_ (a' := ?_) ?_ ?_
  rotate_left
  · show Act.put _ (some 118) _ = _
    simp only [Act.put, List.setIfInBounds_toArray, List.set_cons_zero, List.set_cons_succ, i64_w, i32_w]
    rfl
  refine one_ (i := 9) (N := some 120) #[true, true, true, true, true, true, true, true, true, true, false, false, false, false, false] rfl rfl (by kernel_rfl) (by decide) (fun K hK => ?_)
  have hc := zz_batch x1 p s batch zs (sts.map sv) As2 cs2 q.qp A1 A2 q.vals.length c1 c2 hp (by rw [List.length_map]; exact hN) Hok.out HZS.out HZQ.out
  refine goes_ Tryz.func49 (by kernel_rfl) rfl #[.int .u8 p, .int .i64 s, .int .u8 batch, .slice As2 zs.length cs2, .agg (pAgg q.qp A1 q.vals.length c1 A2 c2), .map none] (by rfl) rfl rfl (by simp only [List.map_toArray, List.map_cons, List.map_nil]; rfl) ?_
  with_reducible refine (hc).mono ?_
  rintro e x2 ⟨v, rfl, hO⟩
  refine ⟨_, rfl, ?_⟩
  have HO := Lib.hid (hO.lower HB3.out)
  have hb4 := hO.1
  have HK4 := Lib.hid (blk_below HK3.out hb4)
  have HQ4 := Lib.hid (blk_below HQ3.out hb4)
  clear hO hb4 hc
  refine hK.out _ _ ⟨((cell_of_row _ _ 12 _ _ _ HK4.out).trans rfl), ((cell_of_row _ _ 13 _ _ _ HK4.out).trans rfl), ((cell_of_row _ _ 0 _ _ _ HQ4.out).trans rfl), ((cell_of_row _ _ 1 _ _ _ HQ4.out).trans rfl), ((cell_of_row _ _ 2 _ _ _ HQ4.out).trans rfl), ((cell_of_row _ _ 3 _ _ _ HQ4.out).trans rfl), ((cell_of_row _ _ 4 _ _ _ HQ4.out).trans rfl), ((cell_of_row _ _ 5 _ _ _ HQ4.out).trans rfl), ((cell_of_row _ _ 6 _ _ _ HQ4.out).trans rfl), ((cell_of_row _ _ 7 _ _ _ HQ4.out).trans rfl), ((cell_of_row _ _ 8 _ _ _ HQ4.out).trans rfl)⟩ (fun hHeld => ?_)
  clear hK K
  refine norm_ (a' := ?_) ?_ ?_
  rotate_left
  · show Act.put _ (some 120) _ = _
    simp only [Act.put, List.setIfInBounds_toArray, List.set_cons_zero, List.set_cons_succ, i64_w, i32_w]
    rfl
  refine e_o 10 ?_
  refine e_o 11 ?_
  refine e_o 12 ?_
  refine e_o 13 ?_
  refine e_o 14 ?_
  refine done_ (by kernel_rfl) ?_
  clear hHeld HQ4 HK4 HQ3 HK3 HB3 HZS HZQ
  go_wp2_with fail
  go_ret3
  exact ⟨v, rfl, HO.out⟩
end Go.Proofs.YtammjbmfiakbnaaGreatDoor
