/-
  The reference's check of a request: by the kind, the others. The reference's check of a request: its options. The reference's check of a request, whole.
-/
import Derived.Test.YtammjbmfiakbnaaGreatDoorG2
import Derived.Test.YtammjbmfiakbnaaGreatDoorD
import Derived.Test.YtammjbmfiakbnaaGreatDoorE5
namespace Go.Proofs.YtammjbmfiakbnaaGreatDoor
set_option maxHeartbeats 2000000
set_option maxRecDepth 100000
set_option linter.unusedSimpArgs false
set_option linter.unusedVariables false
open Go.RowKit Go.Proofs.YtammjbmfiakbnaaGreatDoorW.PrintWords Go.Proofs.YtammjbmfiakbnaaGreatDoorW.PrintLast Go.Proofs.YtammjbmfiakbnaaGreatDoorW.PrintMore
open Go.Proofs.YtammjbmfiakbnaaGreatDoor.PFnRequest
set_option maxHeartbeats 20000000 in
theorem p6_query {KK : Act → World → Prop} {PP : Prop} {w0 W : World} {v s : Int} {K Pp : Nat} {b9 : Bool} {r : IR} {Ao A As : Option Addr} {co c cs : Nat} {a : Act} (hI : I7 v s K Pp a ∧ a.tmps.getD 9 undef = .bool b9) (hK : W.heap[K]? = some (.cells (r.sc Ao co A c As cs) 39 (0, 0))) (hB : Below w0.heap.size w0 W) (hH : Has W Pp) (ho : r.op = 7)
    (QQ : Prop) (hq : ∀ w1 : World, Below W.heap.size W w1 → Calls Tryz.prog 18 #[.int .i64 v, .agg (r.q.sc A c)] w1 (Yes w1 QQ)) (h : QQ → PP) : Code.wp Tryz.prog (c6 5) (Exit.then KK (bodyPost Tryz.prog Tryz.f6 (Yes w0 PP))) a W := by
  have HQ := Lib.hid hq
  clear hq
  have HK := Lib.hid hK
  have HB := Lib.hid hB
  have HHs := Lib.hid hH
  have HP := Lib.hid h
  have c0 : W.cell? ⟨K, 0, none⟩ = some (.int .i64 7) := ((cell_of_row _ _ 0 _ _ _ hK).trans rfl : W.cell? ⟨K, 0, none⟩ = some (.int .i64 r.op)).trans (by rw [ho])
  clear hK hB hH h ho
  obtain ⟨⟨⟨hd, hs, h0, h1, h5⟩, h8⟩, h9⟩ := hI
  obtain ⟨g, rfl⟩ := fr263 a hd hs
  have g0 : g 0 = .int .i64 v := h0
  have g1 : g 1 = .int .i64 s := h1
  have g5 : g 5 = .pointer (some ⟨K, 0, none⟩) := h5
  have g8 : g 8 = may_ Pp := h8
  have g9 : g 9 = .bool b9 := h9
  rw [g0, g1, g5, g8, g9]
  clear hd hs h0 h1 h5 h8 h9 g0 g1 g5 g8 g9
  conv => arg 2; whnf
  go_wp2_with fail
  refine (may1 W Pp 1 HHs.out).mono ?_
  rintro e w1 ⟨b, rfl, hb, -⟩
  have HBa := Lib.hid (below_then HB.out HB.out.size (below_alloc (Below.refl _ _) (.cells #[.int .i64 1] 3)))
  have HB1 := Lib.hid (below_then HBa.out HBa.out.size hb)
  have HK1 := Lib.hid (blk_below (blk_alloc HK.out (.cells #[.int .i64 1] 3)) hb)
  have HW1 := Lib.hid (below_then (below_alloc (Below.refl W.heap.size W) (.cells #[.int .i64 1] 3)) (below_alloc (Below.refl W.heap.size W) (.cells #[.int .i64 1] 3)).size hb)
  clear hb
  cases b with
  | false =>
    go_wp2
    go_ret
    exact Yes.no HB1.out
  | true =>
    have k4 : w1.cell? ⟨K, 4, none⟩ = some (.int .i64 r.q.cons) := (cell_of_row _ _ 4 _ _ _ HK1.out).trans rfl
    have k5 : w1.cell? ⟨K, 5, none⟩ = some (.bool r.q.skip) := (cell_of_row _ _ 5 _ _ _ HK1.out).trans rfl
    have k6 : w1.cell? ⟨K, 6, none⟩ = some (.slice A r.q.vals.length c) := (cell_of_row _ _ 6 _ _ _ HK1.out).trans rfl
    have k7 : w1.cell? ⟨K, 7, none⟩ = some (.int .i64 r.q.page) := (cell_of_row _ _ 7 _ _ _ HK1.out).trans rfl
    have k8 : w1.cell? ⟨K, 8, none⟩ = some (.slice r.q.A4 r.q.paging.length r.q.c4) := (cell_of_row _ _ 8 _ _ _ HK1.out).trans rfl
    have k9 : w1.cell? ⟨K, 9, none⟩ = some (.int .i64 r.q.serial) := (cell_of_row _ _ 9 _ _ _ HK1.out).trans rfl
    have k10 : w1.cell? ⟨K, 10, none⟩ = some (.slice r.q.A6 r.q.ts.length r.q.c6) := (cell_of_row _ _ 10 _ _ _ HK1.out).trans rfl
    go_wp2_with fail
    refine (HQ.out _ HW1.out).mono ?_
    rintro e w2 ⟨b, rfl, hb, hP⟩
    have HB2 := Lib.hid (below_then HB1.out HB1.out.size hb)
    cases b with
    | false =>
      clear hP
      go_wp2
      go_ret
      exact Yes.no HB2.out
    | true =>
      have HP2 := Lib.hid (hP rfl)
      clear hP
      go_wp2
      go_ret
      exact Yes.yes HB2.out (HP.out HP2.out)
set_option maxHeartbeats 20000000 in
theorem p6_execute {KK : Act → World → Prop} {PP : Prop} {w0 W : World} {v s : Int} {K Pp : Nat} {b9 : Bool} {r : IR} {Ao A As : Option Addr} {co c cs : Nat} {a : Act} (hI : I7 v s K Pp a ∧ a.tmps.getD 9 undef = .bool b9) (hK : W.heap[K]? = some (.cells (r.sc Ao co A c As cs) 39 (0, 0))) (hB : Below w0.heap.size w0 W) (hH : Has W Pp) (ho : r.op = 10)
    (QQ : Prop) (hq : ∀ w1 : World, Below W.heap.size W w1 → Calls Tryz.prog 18 #[.int .i64 v, .agg (r.q.sc A c)] w1 (Yes w1 QQ)) (h : QQ → PP) : Code.wp Tryz.prog (c6 5) (Exit.then KK (bodyPost Tryz.prog Tryz.f6 (Yes w0 PP))) a W := by
  have HQ := Lib.hid hq
  clear hq
  have HK := Lib.hid hK
  have HB := Lib.hid hB
  have HHs := Lib.hid hH
  have HP := Lib.hid h
  have c0 : W.cell? ⟨K, 0, none⟩ = some (.int .i64 10) := ((cell_of_row _ _ 0 _ _ _ hK).trans rfl : W.cell? ⟨K, 0, none⟩ = some (.int .i64 r.op)).trans (by rw [ho])
  clear hK hB hH h ho
  obtain ⟨⟨⟨hd, hs, h0, h1, h5⟩, h8⟩, h9⟩ := hI
  obtain ⟨g, rfl⟩ := fr263 a hd hs
  have g0 : g 0 = .int .i64 v := h0
  have g1 : g 1 = .int .i64 s := h1
  have g5 : g 5 = .pointer (some ⟨K, 0, none⟩) := h5
  have g8 : g 8 = may_ Pp := h8
  have g9 : g 9 = .bool b9 := h9
  rw [g0, g1, g5, g8, g9]
  clear hd hs h0 h1 h5 h8 h9 g0 g1 g5 g8 g9
  conv => arg 2; whnf
  go_wp2_with fail
  refine (may1 W Pp 2 HHs.out).mono ?_
  rintro e w1 ⟨b, rfl, hb, -⟩
  have HBa := Lib.hid (below_then HB.out HB.out.size (below_alloc (Below.refl _ _) (.cells #[.int .i64 2] 3)))
  have HB1 := Lib.hid (below_then HBa.out HBa.out.size hb)
  have HK1 := Lib.hid (blk_below (blk_alloc HK.out (.cells #[.int .i64 2] 3)) hb)
  have HW1 := Lib.hid (below_then (below_alloc (Below.refl W.heap.size W) (.cells #[.int .i64 2] 3)) (below_alloc (Below.refl W.heap.size W) (.cells #[.int .i64 2] 3)).size hb)
  clear hb
  cases b with
  | false =>
    go_wp2
    go_ret
    exact Yes.no HB1.out
  | true =>
    have k3 : w1.cell? ⟨K, 3, none⟩ = some (.slice r.Ai r.id.length r.ci) := (cell_of_row _ _ 3 _ _ _ HK1.out).trans rfl
    have k4 : w1.cell? ⟨K, 4, none⟩ = some (.int .i64 r.q.cons) := (cell_of_row _ _ 4 _ _ _ HK1.out).trans rfl
    have k5 : w1.cell? ⟨K, 5, none⟩ = some (.bool r.q.skip) := (cell_of_row _ _ 5 _ _ _ HK1.out).trans rfl
    have k6 : w1.cell? ⟨K, 6, none⟩ = some (.slice A r.q.vals.length c) := (cell_of_row _ _ 6 _ _ _ HK1.out).trans rfl
    have k7 : w1.cell? ⟨K, 7, none⟩ = some (.int .i64 r.q.page) := (cell_of_row _ _ 7 _ _ _ HK1.out).trans rfl
    have k8 : w1.cell? ⟨K, 8, none⟩ = some (.slice r.q.A4 r.q.paging.length r.q.c4) := (cell_of_row _ _ 8 _ _ _ HK1.out).trans rfl
    have k9 : w1.cell? ⟨K, 9, none⟩ = some (.int .i64 r.q.serial) := (cell_of_row _ _ 9 _ _ _ HK1.out).trans rfl
    have k10 : w1.cell? ⟨K, 10, none⟩ = some (.slice r.q.A6 r.q.ts.length r.q.c6) := (cell_of_row _ _ 10 _ _ _ HK1.out).trans rfl
    by_cases hz : 0 < r.id.length
    · have d1 : decide (0 < r.id.length) = true := decide_eq_true (by omega)
      have d2 : decide ((0 : Int) < (r.id.length : Int)) = true := decide_eq_true (by omega)
      go_wp2_with fail
      refine (HQ.out _ HW1.out).mono ?_
      rintro e w2 ⟨b, rfl, hb, hP⟩
      have HB2 := Lib.hid (below_then HB1.out HB1.out.size hb)
      cases b with
      | false =>
        clear hP
        go_wp2
        go_ret
        exact Yes.no HB2.out
      | true =>
        have HP2 := Lib.hid (hP rfl)
        clear hP
        go_wp2
        go_ret
        exact Yes.yes HB2.out (HP.out HP2.out)
    · have d1 : decide (0 < r.id.length) = false := decide_eq_false (by omega)
      have d2 : decide ((0 : Int) < (r.id.length : Int)) = false := decide_eq_false (by omega)
      go_wp2
      go_ret
      exact Yes.no HB1.out
set_option maxHeartbeats 20000000 in
theorem p6_register {KK : Act → World → Prop} {PP : Prop} {w0 W : World} {v s : Int} {K Pp : Nat} {b9 : Bool} {r : IR} {Ao A As : Option Addr} {co c cs : Nat} {a : Act} (hI : I7 v s K Pp a ∧ a.tmps.getD 9 undef = .bool b9) (hK : W.heap[K]? = some (.cells (r.sc Ao co A c As cs) 39 (0, 0))) (hB : Below w0.heap.size w0 W) (hH : Has W Pp) (ho : r.op = 11)
    (hC : Kd.C Kd.string W r.Ae r.ev.length r.ev) (hFe : ∀ x ∈ r.ev, Ft x.size) (h : ((∀ x ∈ r.ev, x.size ≤ 100) ∧ b9 = true) → PP) : Code.wp Tryz.prog (c6 5) (Exit.then KK (bodyPost Tryz.prog Tryz.f6 (Yes w0 PP))) a W := by
  have HE := Lib.hid (Kd.reads_of_C (d := ByteArray.empty) hC)
  have HFe := Lib.hid hFe
  have hmax : r.ev.length ≤ 9223372036854775807 := hC.2.1
  clear hC hFe
  have HK := Lib.hid hK
  have HB := Lib.hid hB
  have HHs := Lib.hid hH
  have HP := Lib.hid h
  have c0 : W.cell? ⟨K, 0, none⟩ = some (.int .i64 11) := ((cell_of_row _ _ 0 _ _ _ hK).trans rfl : W.cell? ⟨K, 0, none⟩ = some (.int .i64 r.op)).trans (by rw [ho])
  have k11 : W.cell? ⟨K, 11, none⟩ = some (.slice r.Ae r.ev.length r.ce) := (cell_of_row _ _ 11 _ _ _ hK).trans rfl
  clear hK hB hH h ho
  generalize r.Ae = Ae at *
  obtain ⟨⟨⟨hd, hs, h0, h1, h5⟩, h8⟩, h9⟩ := hI
  obtain ⟨g, rfl⟩ := fr263 a hd hs
  have g0 : g 0 = .int .i64 v := h0
  have g1 : g 1 = .int .i64 s := h1
  have g5 : g 5 = .pointer (some ⟨K, 0, none⟩) := h5
  have g8 : g 8 = may_ Pp := h8
  have g9 : g 9 = .bool b9 := h9
  rw [g0, g1, g5, g8, g9]
  clear hd hs h0 h1 h5 h8 h9 g0 g1 g5 g8 g9
  conv => arg 2; whnf
  go_wp2
  go_loopw [209] (fun v209 W2 => ∃ i : Nat, v209 = .int .i64 i ∧ i ≤ r.ev.length ∧ Hid (Below W.heap.size W W2 ∧ ∀ x ∈ r.ev.take i, x.size ≤ 100)) (fun v209 _ => r.ev.length - (intOf v209).toNat)
  case atStart => exact ⟨0, rfl, by omega, Lib.hid ⟨Below.refl _ _, fun x hx => by simp at hx⟩⟩
  case round =>
    obtain ⟨i, rfl, hi, HI⟩ := hrel
    by_cases hlt : i < r.ev.length
    · have hx : r.ev[i]? = some r.ev[i] := List.getElem?_eq_getElem hlt
      obtain ⟨ad, rfl, hc⟩ := HE.out.at_ (i : Int) (by omega) (by omega)
      have hrd : rdOf ByteArray.empty r.ev (i : Int) = r.ev[i] := by simp [rdOf, List.getD_eq_getElem?_getD, hx]
      rw [hrd, Int.toNat_natCast] at hc
      have kc := pw_cell_below HI.out.1 hc
      have hFx := HFe.out _ (List.getElem_mem hlt)
      have Htk := Lib.hid (List.take_succ_eq_append_getElem hlt)
      generalize r.ev[i] = x at *
      clear hx hrd hc
      go_wp2_with fail
      refine (ascii_any _ x hFx).mono ?_
      rintro e w2 ⟨b, rfl, hb, hP⟩
      have HB2 := Lib.hid (below_then HI.out.1 HI.out.1.size hb)
      clear hb
      cases b with
      | false =>
        clear hP
        go_wp2
        go_ret
        exact Yes.no (below_then HB.out HB.out.size HB2.out)
      | true =>
        have HPx := Lib.hid (hP rfl)
        clear hP
        go_wp2
        go_roundw
        case rel =>
          refine ⟨i + 1, by go_num, by omega, Lib.hid ⟨HB2.out, fun z hz => ?_⟩⟩
          rw [Htk.out] at hz
          rcases List.mem_append.1 hz with hz | hz
          · exact HI.out.2 z hz
          · obtain rfl := List.mem_singleton.1 hz
            exact HPx.out
        case measure => simp [intOf]; omega
    · have hii : i = r.ev.length := by omega
      subst hii
      rw [List.take_length] at HI
      go_wp2_with fail
      refine (may1 wr Pp 3 (HHs.out.below_ HI.out.1)).mono ?_
      rintro e w1 ⟨b, rfl, hb, -⟩
      have HBi := Lib.hid (below_then HB.out HB.out.size HI.out.1)
      have HBa := Lib.hid (below_then HBi.out HBi.out.size (below_alloc (Below.refl _ _) (.cells #[.int .i64 3] 3)))
      have HB1 := Lib.hid (below_then HBa.out HBa.out.size hb)
      clear hb
      cases b with
      | false =>
        go_wp2
        go_ret
        exact Yes.no HB1.out
      | true =>
        go_wp2
        go_ret
        exact ⟨_, rfl, HB1.out, fun h => HP.out ⟨HI.out.2, h⟩⟩
set_option maxHeartbeats 20000000 in
theorem p6_batch {KK : Act → World → Prop} {PP : Prop} {w0 W : World} {v s : Int} {K Pp : Nat} {b9 : Bool} {r : IR} {Ao A As : Option Addr} {co c cs : Nat} {a : Act} (hI : I7 v s K Pp a ∧ a.tmps.getD 9 undef = .bool b9) (hK : W.heap[K]? = some (.cells (r.sc Ao co A c As cs) 39 (0, 0))) (hB : Below w0.heap.size w0 W) (hH : Has W Pp) (ho : r.op = 13)
    (QQ : Prop) (hq : ∀ w1 : World, Below W.heap.size W w1 → Calls Tryz.prog 18 #[.int .i64 v, .agg (r.q.sc A c)] w1 (Yes w1 QQ)) (SS : Prop) (hst : ∀ w1 : World, Below W.heap.size W w1 → Calls Tryz.prog 19 #[.int .i64 v, .slice As r.sts.length cs] w1 (Yes w1 SS)) (h : (0 ≤ r.batch ∧ r.batch ≤ 2 ∧ QQ ∧ SS) → PP) : Code.wp Tryz.prog (c6 5) (Exit.then KK (bodyPost Tryz.prog Tryz.f6 (Yes w0 PP))) a W := by
  have HQ := Lib.hid hq
  have HST := Lib.hid hst
  clear hq hst
  have HK := Lib.hid hK
  have HB := Lib.hid hB
  have HHs := Lib.hid hH
  have HP := Lib.hid h
  have c0 : W.cell? ⟨K, 0, none⟩ = some (.int .i64 13) := ((cell_of_row _ _ 0 _ _ _ hK).trans rfl : W.cell? ⟨K, 0, none⟩ = some (.int .i64 r.op)).trans (by rw [ho])
  clear hK hB hH h ho
  obtain ⟨⟨⟨hd, hs, h0, h1, h5⟩, h8⟩, h9⟩ := hI
  obtain ⟨g, rfl⟩ := fr263 a hd hs
  have g0 : g 0 = .int .i64 v := h0
  have g1 : g 1 = .int .i64 s := h1
  have g5 : g 5 = .pointer (some ⟨K, 0, none⟩) := h5
  have g8 : g 8 = may_ Pp := h8
  have g9 : g 9 = .bool b9 := h9
  rw [g0, g1, g5, g8, g9]
  clear hd hs h0 h1 h5 h8 h9 g0 g1 g5 g8 g9
  conv => arg 2; whnf
  go_wp2_with fail
  refine (may1 W Pp 4 HHs.out).mono ?_
  rintro e w1 ⟨b, rfl, hb, -⟩
  have HBa := Lib.hid (below_then HB.out HB.out.size (below_alloc (Below.refl _ _) (.cells #[.int .i64 4] 3)))
  have HB1 := Lib.hid (below_then HBa.out HBa.out.size hb)
  have HK1 := Lib.hid (blk_below (blk_alloc HK.out (.cells #[.int .i64 4] 3)) hb)
  have HW1 := Lib.hid (below_then (below_alloc (Below.refl W.heap.size W) (.cells #[.int .i64 4] 3)) (below_alloc (Below.refl W.heap.size W) (.cells #[.int .i64 4] 3)).size hb)
  clear hb
  cases b with
  | false =>
    go_wp2
    go_ret
    exact Yes.no HB1.out
  | true =>
    have k4 : w1.cell? ⟨K, 4, none⟩ = some (.int .i64 r.q.cons) := (cell_of_row _ _ 4 _ _ _ HK1.out).trans rfl
    have k5 : w1.cell? ⟨K, 5, none⟩ = some (.bool r.q.skip) := (cell_of_row _ _ 5 _ _ _ HK1.out).trans rfl
    have k6 : w1.cell? ⟨K, 6, none⟩ = some (.slice A r.q.vals.length c) := (cell_of_row _ _ 6 _ _ _ HK1.out).trans rfl
    have k7 : w1.cell? ⟨K, 7, none⟩ = some (.int .i64 r.q.page) := (cell_of_row _ _ 7 _ _ _ HK1.out).trans rfl
    have k8 : w1.cell? ⟨K, 8, none⟩ = some (.slice r.q.A4 r.q.paging.length r.q.c4) := (cell_of_row _ _ 8 _ _ _ HK1.out).trans rfl
    have k9 : w1.cell? ⟨K, 9, none⟩ = some (.int .i64 r.q.serial) := (cell_of_row _ _ 9 _ _ _ HK1.out).trans rfl
    have k10 : w1.cell? ⟨K, 10, none⟩ = some (.slice r.q.A6 r.q.ts.length r.q.c6) := (cell_of_row _ _ 10 _ _ _ HK1.out).trans rfl
    have k11 : w1.cell? ⟨K, 11, none⟩ = some (.slice r.Ae r.ev.length r.ce) := (cell_of_row _ _ 11 _ _ _ HK1.out).trans rfl
    have k12 : w1.cell? ⟨K, 12, none⟩ = some (.int .i64 r.batch) := (cell_of_row _ _ 12 _ _ _ HK1.out).trans rfl
    have k13 : w1.cell? ⟨K, 13, none⟩ = some (.slice As r.sts.length cs) := (cell_of_row _ _ 13 _ _ _ HK1.out).trans rfl
    by_cases h1 : 0 ≤ r.batch
    · have d1 : decide (0 ≤ r.batch) = true := decide_eq_true h1
      by_cases h2 : r.batch ≤ 2
      · have d2 : decide (r.batch ≤ 2) = true := decide_eq_true h2
        go_wp2_with fail
        refine (nothing2_any w1 r.q A c).mono ?_
        rintro e w2 ⟨b, rfl, hb, -⟩
        have HB2 := Lib.hid (below_then HB1.out HB1.out.size hb)
        have HW2 := Lib.hid (below_then HW1.out HW1.out.size hb)
        have HK2 := Lib.hid (blk_below HK1.out hb)
        clear hb k4 k5 k6 k7 k8 k9 k10 k11 k12 k13
        cases b with
        | false =>
          go_wp2
          go_ret
          exact Yes.no HB2.out
        | true =>
          have k4 : w2.cell? ⟨K, 4, none⟩ = some (.int .i64 r.q.cons) := (cell_of_row _ _ 4 _ _ _ HK2.out).trans rfl
          have k5 : w2.cell? ⟨K, 5, none⟩ = some (.bool r.q.skip) := (cell_of_row _ _ 5 _ _ _ HK2.out).trans rfl
          have k6 : w2.cell? ⟨K, 6, none⟩ = some (.slice A r.q.vals.length c) := (cell_of_row _ _ 6 _ _ _ HK2.out).trans rfl
          have k7 : w2.cell? ⟨K, 7, none⟩ = some (.int .i64 r.q.page) := (cell_of_row _ _ 7 _ _ _ HK2.out).trans rfl
          have k8 : w2.cell? ⟨K, 8, none⟩ = some (.slice r.q.A4 r.q.paging.length r.q.c4) := (cell_of_row _ _ 8 _ _ _ HK2.out).trans rfl
          have k9 : w2.cell? ⟨K, 9, none⟩ = some (.int .i64 r.q.serial) := (cell_of_row _ _ 9 _ _ _ HK2.out).trans rfl
          have k10 : w2.cell? ⟨K, 10, none⟩ = some (.slice r.q.A6 r.q.ts.length r.q.c6) := (cell_of_row _ _ 10 _ _ _ HK2.out).trans rfl
          have k11 : w2.cell? ⟨K, 11, none⟩ = some (.slice r.Ae r.ev.length r.ce) := (cell_of_row _ _ 11 _ _ _ HK2.out).trans rfl
          have k12 : w2.cell? ⟨K, 12, none⟩ = some (.int .i64 r.batch) := (cell_of_row _ _ 12 _ _ _ HK2.out).trans rfl
          have k13 : w2.cell? ⟨K, 13, none⟩ = some (.slice As r.sts.length cs) := (cell_of_row _ _ 13 _ _ _ HK2.out).trans rfl
          go_wp2_with fail
          refine (HQ.out _ HW2.out).mono ?_
          rintro e w3 ⟨b, rfl, hb, hP⟩
          have HB3 := Lib.hid (below_then HB2.out HB2.out.size hb)
          have HW3 := Lib.hid (below_then HW2.out HW2.out.size hb)
          have HK3 := Lib.hid (blk_below HK2.out hb)
          clear hb k4 k5 k6 k7 k8 k9 k10 k11 k12 k13
          cases b with
          | false =>
            clear hP
            go_wp2
            go_ret
            exact Yes.no HB3.out
          | true =>
            have HP3 := Lib.hid (hP rfl)
            clear hP
            have k13 : w3.cell? ⟨K, 13, none⟩ = some (.slice As r.sts.length cs) := (cell_of_row _ _ 13 _ _ _ HK3.out).trans rfl
            go_wp2_with fail
            refine (HST.out _ HW3.out).mono ?_
            rintro e w4 ⟨b, rfl, hb, hP⟩
            have HB4 := Lib.hid (below_then HB3.out HB3.out.size hb)
            clear hb
            cases b with
            | false =>
              clear hP
              go_wp2
              go_ret
              exact Yes.no HB4.out
            | true =>
              have HP4 := Lib.hid (hP rfl)
              clear hP
              go_wp2
              go_ret
              exact Yes.yes HB4.out (HP.out ⟨h1, h2, HP3.out, HP4.out⟩)
      · have d2 : decide (r.batch ≤ 2) = false := decide_eq_false h2
        go_wp2
        go_ret
        exact Yes.no HB1.out
    · have d1 : decide (0 ≤ r.batch) = false := decide_eq_false h1
      go_wp2
      go_ret
      exact Yes.no HB1.out
def SLt (a b : ByteArray) : Prop := Op.bytesLess a.toList b.toList = true
set_option maxHeartbeats 20000000 in
theorem p6_startup {KK : Act → World → Prop} {PP : Prop} {w0 W : World} {v s : Int} {K Pp : Nat} {b9 : Bool} {r : IR} {Ao A As : Option Addr} {co c cs : Nat} {a : Act} (hI : I7 v s K Pp a ∧ a.tmps.getD 9 undef = .bool b9) (hK : W.heap[K]? = some (.cells (r.sc Ao co A c As cs) 39 (0, 0))) (hB : Below w0.heap.size w0 W) (hH : Has W Pp) (ho : r.op = 1)
    (xs : List S54) (hlen : r.opts.length = xs.length) (hC : Kd.C k54 W Ao xs.length xs) (hF : ∀ x ∈ xs, Ft x.f0.size ∧ Ft x.f1.size) (h : ((∀ x ∈ xs, x.f0.size ≤ 100 ∧ x.f1.size ≤ 100) ∧ (∀ j : Nat, j + 1 < xs.length → SLt (rd_T54 xs (j : Int)).f0 (rd_T54 xs ((j + 1 : Nat) : Int)).f0) ∧ b9 = true) → PP) : Code.wp Tryz.prog (c6 5) (Exit.then KK (bodyPost Tryz.prog Tryz.f6 (Yes w0 PP))) a W := by
  have HC := Lib.hid hC
  have HF := Lib.hid hF
  have hmax : xs.length ≤ 9223372036854775807 := hC.2.1
  have HN : Hid ((r.sc Ao co A c As cs)[1]? = some (.slice Ao xs.length co)) := Lib.hid (show some (Value.slice Ao r.opts.length co) = _ by rw [hlen])
  clear hC hF hlen
  have HK := Lib.hid hK
  have HB := Lib.hid hB
  have HHs := Lib.hid hH
  have HP := Lib.hid h
  have c0 : W.cell? ⟨K, 0, none⟩ = some (.int .i64 1) := ((cell_of_row _ _ 0 _ _ _ hK).trans rfl : W.cell? ⟨K, 0, none⟩ = some (.int .i64 r.op)).trans (by rw [ho])
  have k1 : W.cell? ⟨K, 1, none⟩ = some (.slice Ao xs.length co) := (cell_of_row _ _ 1 _ _ _ hK).trans HN.out
  clear hK hB hH h ho
  obtain ⟨⟨⟨hd, hs, h0, h1, h5⟩, h8⟩, h9⟩ := hI
  obtain ⟨g, rfl⟩ := fr263 a hd hs
  have g0 : g 0 = .int .i64 v := h0
  have g1 : g 1 = .int .i64 s := h1
  have g5 : g 5 = .pointer (some ⟨K, 0, none⟩) := h5
  have g8 : g 8 = may_ Pp := h8
  have g9 : g 9 = .bool b9 := h9
  rw [g0, g1, g5, g8, g9]
  clear hd hs h0 h1 h5 h8 h9 g0 g1 g5 g8 g9
  conv => arg 2; whnf
  go_wp2
  go_loopw [123] (fun v123 W2 => ∃ i : Nat, v123 = .int .i64 i ∧ i ≤ xs.length ∧ Hid (Below W.heap.size W W2 ∧ (∀ x ∈ xs.take i, x.f0.size ≤ 100 ∧ x.f1.size ≤ 100) ∧ ∀ j : Nat, j + 1 < i → SLt (rd_T54 xs (j : Int)).f0 (rd_T54 xs ((j + 1 : Nat) : Int)).f0)) (fun v123 _ => xs.length - (intOf v123).toNat)
  case atStart => exact ⟨0, rfl, by omega, Lib.hid ⟨Below.refl _ _, fun x hx => by simp at hx, fun j hj => absurd hj (by omega)⟩⟩
  case round =>
    obtain ⟨i, rfl, hi, HI⟩ := hrel
    by_cases hlt : i < xs.length
    · have hx : xs[i]? = some xs[i] := List.getElem?_eq_getElem hlt
      obtain ⟨ad, rfl, hx0, hx1⟩ := at_T54 HC.out (i : Int) (by omega) (by omega)
      have hrd : rd_T54 xs (i : Int) = xs[i] := by simp [rd_T54, List.getD_eq_getElem?_getD, hx]
      rw [hrd] at hx0 hx1
      rw [Int.toNat_natCast] at hx0 hx1
      have kx0 := pw_cell_below HI.out.1 hx0
      have kx1 := pw_cell_below HI.out.1 hx1
      obtain ⟨hFk, hFv⟩ := HF.out _ (List.getElem_mem hlt)
      have Htk := Lib.hid (List.take_succ_eq_append_getElem hlt)
      have Hrd := Lib.hid hrd
      generalize xs[i] = x at *
      clear hx hrd hx0 hx1
      obtain ⟨xk, xv⟩ := x
      simp only at kx0 kx1 hFk hFv
      have HKb := Lib.hid (heap_alloc_new wr (.cells #[.string xk, .string xv] 54))
      have HK0 := Lib.hid (blk_alloc (blk_below HK.out HI.out.1) (.cells #[.string xk, .string xv] 54))
      have HBd := Lib.hid (below_alloc (Below.refl wr.heap.size wr) (.cells #[.string xk, .string xv] 54)).drew
      have HBw := Lib.hid (below_then HB.out HB.out.size HI.out.1)
      have HBa := Lib.hid (below_then HBw.out HBw.out.size (below_alloc (Below.refl wr.heap.size wr) (.cells #[.string xk, .string xv] 54)))
      go_upto_region 11 with (fail)
      by_cases hz : 0 < i
      · obtain ⟨j, rfl⟩ : ∃ j, i = j + 1 := ⟨i - 1, by omega⟩
        have e1 : decide (0 < j + 1) = true := decide_eq_true (by omega)
        have e2 : decide ((0 : Int) < ((j + 1 : Nat) : Int)) = true := decide_eq_true (by omega)
        have hwj : wrap64 (j : Int) = (j : Int) := by unfold wrap64; omega
        have hj0 : (0 : Int) ≤ (j : Int) := by omega
        have hj1 : (j : Int) < (xs.length : Int) := by omega
        obtain ⟨ad', _, hadj, hy0, _⟩ : ∃ ad' : Addr, ∃ _ : True, some ad = some ad' ∧ W.cell? (ad'.add ((j : Int).toNat * 2)) = some (.string (rd_T54 xs (j : Int)).f0) ∧ True := by
          obtain ⟨ad', h1, h2, _⟩ := at_T54 HC.out (j : Int) (by omega) (by omega)
          exact ⟨ad', trivial, h1, h2, trivial⟩
        obtain rfl := Option.some.inj hadj
        rw [Int.toNat_natCast] at hy0
        have ky := pw_cell_below HI.out.1 hy0
        clear hy0
        generalize hyy : (rd_T54 xs (j : Int)).f0 = y at ky
        have Hyy := Lib.hid hyy
        clear hyy
        refine start_ (n := 26) (S := fun w' => w'.cell? ⟨wr.heap.size, 0, none⟩ = some (.string xk) ∧ w'.cell? ⟨wr.heap.size, 1, none⟩ = some (.string xv) ∧ w'.cell? ⟨K, 1, none⟩ = some (.slice (some ad) xs.length co) ∧ w'.cell? (ad.add (j * 2)) = some (.string y)) (ds := []) (ls 26 0) (by kernel_rfl) rfl rfl ⟨(cell_of_row _ _ 0 _ _ _ (blk_drew HKb.out)).trans rfl, (cell_of_row _ _ 1 _ _ _ (blk_drew HKb.out)).trans rfl, (cell_of_row _ _ 1 _ _ _ (blk_drew HK0.out)).trans HN.out, pw_cell_below HBd.out ky⟩ (fun hHeld => ?_)
        iterate 2 (first | refine d_f ?_ | refine d_o ?_ | refine d_t ?_)
        refine one_ (i := 2) (N := some 130) (ls 26 3) rfl rfl (by kernel_rfl) (by decide) (fun K1 hK => ?_)
        refine goes_ Tryz.func15 (by kernel_rfl) rfl #[.string xk] (by rfl) rfl rfl (by simp only [List.map_toArray, List.map_cons, List.map_nil]; rfl) ?_
        with_reducible refine (ascii_any _ xk hFk).mono ?_
        rintro e w3 ⟨b, rfl, hb3, hP3⟩
        refine ⟨_, rfl, ?_⟩
        have HB3 := Lib.hid (below_then HBa.out.drew HBa.out.drew.size hb3)
        have HD3 := Lib.hid (below_then HBd.out HBd.out.size hb3)
        have HKb3 := Lib.hid (blk_below (blk_drew HKb.out) hb3)
        have HKk3 := Lib.hid (blk_below (blk_drew HK0.out) hb3)
        refine hK.out _ _ ⟨(cell_of_row _ _ 0 _ _ _ HKb3.out).trans rfl, (cell_of_row _ _ 1 _ _ _ HKb3.out).trans rfl, (cell_of_row _ _ 1 _ _ _ HKk3.out).trans HN.out, pw_cell_below HD3.out ky⟩ (fun hHeld => ?_)
        clear hK K1
        refine norm_ (a' := ?_) ?_ ?_
        rotate_left
        · show Act.put _ (some 130) _ = _
          simp only [Act.put, List.setIfInBounds_toArray, List.set_cons_zero, List.set_cons_succ, i64_w, i32_w]
          rfl
        cases b with
        | false =>
          clear hP3
          iterate 23 (first | refine d_f ?_ | refine d_o ?_ | refine d_t ?_)
          refine done_ (by kernel_rfl) ?_
          simp only [Exit.then]
          refine (‹∀ (a : Act) (w : World), Code.wp Tryz.prog _ _ a w → _›) _ _ ?_
          go_wp2
          go_ret
          exact Yes.no HB3.out
        | true =>
          iterate 4 (first | refine d_f ?_ | refine d_o ?_ | refine d_t ?_)
          refine one_ (i := 7) (N := some 135) (ls 26 8) rfl rfl (by kernel_rfl) (by decide) (fun K1 hK => ?_)
          refine goes_ Tryz.func15 (by kernel_rfl) rfl #[.string xv] (by rfl) rfl rfl (by simp only [List.map_toArray, List.map_cons, List.map_nil]; rfl) ?_
          with_reducible refine (ascii_any _ xv hFv).mono ?_
          rintro e w4 ⟨b, rfl, hb4, hP4⟩
          refine ⟨_, rfl, ?_⟩
          have HB4 := Lib.hid (below_then HB3.out HB3.out.size hb4)
          have HD4 := Lib.hid (below_then HD3.out HD3.out.size hb4)
          have HKb4 := Lib.hid (blk_below HKb3.out hb4)
          have HKk4 := Lib.hid (blk_below HKk3.out hb4)
          refine hK.out _ _ ⟨(cell_of_row _ _ 0 _ _ _ HKb4.out).trans rfl, (cell_of_row _ _ 1 _ _ _ HKb4.out).trans rfl, (cell_of_row _ _ 1 _ _ _ HKk4.out).trans HN.out, pw_cell_below HD4.out ky⟩ (fun hHeld => ?_)
          clear hK K1
          refine norm_ (a' := ?_) ?_ ?_
          rotate_left
          · show Act.put _ (some 135) _ = _
            simp only [Act.put, List.setIfInBounds_toArray, List.set_cons_zero, List.set_cons_succ, i64_w, i32_w]
            rfl
          cases b with
          | false =>
            clear hP4
            iterate 18 (first | refine d_f ?_ | refine d_o ?_ | refine d_t ?_)
            refine done_ (by kernel_rfl) ?_
            simp only [Exit.then]
            refine (‹∀ (a : Act) (w : World), Code.wp Tryz.prog _ _ a w → _›) _ _ ?_
            go_wp2
            go_ret
            exact Yes.no HB4.out
          | true =>
            have HP3 := Lib.hid (hP3 rfl)
            have HP4 := Lib.hid (hP4 rfl)
            clear hP3 hP4
            iterate 18 (first | refine d_f ?_ | refine d_o ?_ | refine d_t ?_)
            refine done_ (by kernel_rfl) ?_
            simp only [Exit.then]
            refine (‹∀ (a : Act) (w : World), Code.wp Tryz.prog _ _ a w → _›) _ _ ?_
            go_wp2
            · go_ret
              exact Yes.no HB4.out
            have hsl : SLt y xk := by
              have h2 := ‹(!Op.bytesLess y.toList xk.toList) = false›
              unfold SLt
              simpa using h2
            have HS := Lib.hid hsl
            clear hsl
            go_roundw
            case rel =>
              refine ⟨j + 1 + 1, by go_num, by omega, Lib.hid ⟨below_then HI.out.1 HI.out.1.size HD4.out, fun z hz => ?_, fun jj hjj => ?_⟩⟩
              · rw [Htk.out] at hz
                rcases List.mem_append.1 hz with hz | hz
                · exact HI.out.2.1 z hz
                · obtain rfl := List.mem_singleton.1 hz
                  exact ⟨HP3.out, HP4.out⟩
              · by_cases hje : jj = j
                · subst hje
                  rw [Hyy.out, Hrd.out]
                  exact HS.out
                · exact HI.out.2.2 jj (by omega)
            case measure => simp [intOf]; omega
      · have e1 : decide (0 < i) = false := decide_eq_false hz
        have e2 : decide ((0 : Int) < (i : Int)) = false := decide_eq_false (by omega)
        refine start_ (n := 26) (S := fun w' => w'.cell? ⟨wr.heap.size, 0, none⟩ = some (.string xk) ∧ w'.cell? ⟨wr.heap.size, 1, none⟩ = some (.string xv) ∧ w'.cell? ⟨K, 1, none⟩ = some (.slice (some ad) xs.length co)) (ds := []) (ls 26 0) (by kernel_rfl) rfl rfl ⟨(cell_of_row _ _ 0 _ _ _ (blk_drew HKb.out)).trans rfl, (cell_of_row _ _ 1 _ _ _ (blk_drew HKb.out)).trans rfl, (cell_of_row _ _ 1 _ _ _ (blk_drew HK0.out)).trans HN.out⟩ (fun hHeld => ?_)
        iterate 2 (first | refine d_f ?_ | refine d_o ?_ | refine d_t ?_)
        refine one_ (i := 2) (N := some 130) (ls 26 3) rfl rfl (by kernel_rfl) (by decide) (fun K1 hK => ?_)
        refine goes_ Tryz.func15 (by kernel_rfl) rfl #[.string xk] (by rfl) rfl rfl (by simp only [List.map_toArray, List.map_cons, List.map_nil]; rfl) ?_
        with_reducible refine (ascii_any _ xk hFk).mono ?_
        rintro e w3 ⟨b, rfl, hb3, hP3⟩
        refine ⟨_, rfl, ?_⟩
        have HB3 := Lib.hid (below_then HBa.out.drew HBa.out.drew.size hb3)
        have HD3 := Lib.hid (below_then HBd.out HBd.out.size hb3)
        have HKb3 := Lib.hid (blk_below (blk_drew HKb.out) hb3)
        have HKk3 := Lib.hid (blk_below (blk_drew HK0.out) hb3)
        refine hK.out _ _ ⟨(cell_of_row _ _ 0 _ _ _ HKb3.out).trans rfl, (cell_of_row _ _ 1 _ _ _ HKb3.out).trans rfl, (cell_of_row _ _ 1 _ _ _ HKk3.out).trans HN.out⟩ (fun hHeld => ?_)
        clear hK K1
        refine norm_ (a' := ?_) ?_ ?_
        rotate_left
        · show Act.put _ (some 130) _ = _
          simp only [Act.put, List.setIfInBounds_toArray, List.set_cons_zero, List.set_cons_succ, i64_w, i32_w]
          rfl
        cases b with
        | false =>
          clear hP3
          iterate 23 (first | refine d_f ?_ | refine d_o ?_ | refine d_t ?_)
          refine done_ (by kernel_rfl) ?_
          simp only [Exit.then]
          refine (‹∀ (a : Act) (w : World), Code.wp Tryz.prog _ _ a w → _›) _ _ ?_
          go_wp2
          go_ret
          exact Yes.no HB3.out
        | true =>
          iterate 4 (first | refine d_f ?_ | refine d_o ?_ | refine d_t ?_)
          refine one_ (i := 7) (N := some 135) (ls 26 8) rfl rfl (by kernel_rfl) (by decide) (fun K1 hK => ?_)
          refine goes_ Tryz.func15 (by kernel_rfl) rfl #[.string xv] (by rfl) rfl rfl (by simp only [List.map_toArray, List.map_cons, List.map_nil]; rfl) ?_
          with_reducible refine (ascii_any _ xv hFv).mono ?_
          rintro e w4 ⟨b, rfl, hb4, hP4⟩
          refine ⟨_, rfl, ?_⟩
          have HB4 := Lib.hid (below_then HB3.out HB3.out.size hb4)
          have HD4 := Lib.hid (below_then HD3.out HD3.out.size hb4)
          have HKb4 := Lib.hid (blk_below HKb3.out hb4)
          have HKk4 := Lib.hid (blk_below HKk3.out hb4)
          refine hK.out _ _ ⟨(cell_of_row _ _ 0 _ _ _ HKb4.out).trans rfl, (cell_of_row _ _ 1 _ _ _ HKb4.out).trans rfl, (cell_of_row _ _ 1 _ _ _ HKk4.out).trans HN.out⟩ (fun hHeld => ?_)
          clear hK K1
          refine norm_ (a' := ?_) ?_ ?_
          rotate_left
          · show Act.put _ (some 135) _ = _
            simp only [Act.put, List.setIfInBounds_toArray, List.set_cons_zero, List.set_cons_succ, i64_w, i32_w]
            rfl
          cases b with
          | false =>
            clear hP4
            iterate 18 (first | refine d_f ?_ | refine d_o ?_ | refine d_t ?_)
            refine done_ (by kernel_rfl) ?_
            simp only [Exit.then]
            refine (‹∀ (a : Act) (w : World), Code.wp Tryz.prog _ _ a w → _›) _ _ ?_
            go_wp2
            go_ret
            exact Yes.no HB4.out
          | true =>
            have HP3 := Lib.hid (hP3 rfl)
            have HP4 := Lib.hid (hP4 rfl)
            clear hP3 hP4
            iterate 18 (first | refine d_f ?_ | refine d_o ?_ | refine d_t ?_)
            refine done_ (by kernel_rfl) ?_
            simp only [Exit.then]
            refine (‹∀ (a : Act) (w : World), Code.wp Tryz.prog _ _ a w → _›) _ _ ?_
            go_wp2
            go_roundw
            case rel =>
              refine ⟨i + 1, by go_num, by omega, Lib.hid ⟨below_then HI.out.1 HI.out.1.size HD4.out, fun z hz => ?_, fun jj hjj => absurd hjj (by omega)⟩⟩
              rw [Htk.out] at hz
              rcases List.mem_append.1 hz with hz | hz
              · exact HI.out.2.1 z hz
              · obtain rfl := List.mem_singleton.1 hz
                exact ⟨HP3.out, HP4.out⟩
            case measure => simp [intOf]; omega
    · have hii : i = xs.length := by omega
      subst hii
      rw [List.take_length] at HI
      go_wp2_with fail
      refine (may1 wr Pp 0 (HHs.out.below_ HI.out.1)).mono ?_
      rintro e w1 ⟨b, rfl, hb, -⟩
      have HBi := Lib.hid (below_then HB.out HB.out.size HI.out.1)
      have HBa := Lib.hid (below_then HBi.out HBi.out.size (below_alloc (Below.refl _ _) (.cells #[.int .i64 0] 3)))
      have HB1 := Lib.hid (below_then HBa.out HBa.out.size hb)
      clear hb
      cases b with
      | false =>
        go_wp2
        go_ret
        exact Yes.no HB1.out
      | true =>
        go_wp2
        go_ret
        exact ⟨_, rfl, HB1.out, fun h => HP.out ⟨HI.out.2.1, HI.out.2.2, h⟩⟩
theorem pw_adj {α : Type} (R : α → α → Prop) (ht : ∀ a b c, R a b → R b c → R a c) : ∀ l : List α, (∀ j (h : j + 1 < l.length), R (l[j]'(by omega)) (l[j + 1]'h)) → l.Pairwise R
  | [], _ => .nil
  | a :: l, h => by
    have hl := pw_adj R ht l (fun j hj => h (j + 1) (by simp only [List.length_cons]; omega))
    refine List.pairwise_cons.2 ⟨fun x hx => ?_, hl⟩
    cases l with
    | nil => cases hx
    | cons b l =>
      have hab : R a b := by simpa using h 0 (by simp)
      rcases List.mem_cons.1 hx with rfl | hx
      · exact hab
      · exact ht _ _ _ hab ((List.pairwise_cons.1 hl).1 x hx)
theorem bytesLess_lt : ∀ (x y : List UInt8), Op.bytesLess x y = decide (x < y)
  | [], [] => by simp [Op.bytesLess]
  | _ :: _, [] => by simp [Op.bytesLess]
  | [], _ :: _ => by simp [Op.bytesLess]
  | a :: x, b :: y => by
    rw [Op.bytesLess, bytesLess_lt x y]
    simp only [List.cons_lt_cons_iff]
    by_cases h1 : a < b <;> by_cases h2 : a = b <;> by_cases h3 : x < y <;> simp [h1, h2, h3]
theorem sorted_of (l : List S53) (h : ∀ j : Nat, j + 1 < (l.map c54).length → SLt (rd_T54 (l.map c54) (j : Int)).f0 (rd_T54 (l.map c54) ((j + 1 : Nat) : Int)).f0) : ((l.map kvOf).map fun kv => kv.1.data.toList).Pairwise (· < ·) := by
  refine pw_adj _ (fun (a b c : List UInt8) (h1 : a < b) (h2 : b < c) => List.lt_trans h1 h2) _ (fun j hj => ?_)
  have hj2 : j + 1 < l.length := by simpa using hj
  have h1 := h j (by simpa using hj2)
  have e : ∀ i (hi : i < l.length), (rd_T54 (l.map c54) (i : Int)).f0 = (l[i]).f0 := fun i hi => by
    simp [rd_T54, List.getD_eq_getElem?_getD, List.getElem?_map, List.getElem?_eq_getElem hi, c54]
  rw [e j (by omega), e (j + 1) hj2] at h1
  unfold SLt at h1
  rw [bytesLess_lt, ByteArray.toList_eq, ByteArray.toList_eq] at h1
  have h2 := of_decide_eq_true h1
  simpa [kvOf] using h2
theorem bare_ok {q : IQ} (h : Bare q) : q.ok := by
  obtain ⟨⟨h1, h2, h3⟩, h4, h5, h6⟩ := h
  have hv := List.length_eq_zero_iff.1 h1
  exact ⟨by omega, by omega, by omega, fun x hx => (by rw [hv] at hx; cases hx), by omega, by omega, by omega, by omega, by omega, by omega⟩
set_option maxHeartbeats 20000000 in
theorem p6_none {KK : Act → World → Prop} {R : Ending → World → Prop} {W : World} {v s : Int} {K Pp : Nat} {b9 : Bool} {r : IR} {Ao A As : Option Addr} {co c cs : Nat} {a : Act} (hI : I7 v s K Pp a ∧ a.tmps.getD 9 undef = .bool b9) (hK : W.heap[K]? = some (.cells (r.sc Ao co A c As cs) 39 (0, 0)))
    (n1 : r.op ≠ 1) (n5 : r.op ≠ 5) (n7 : r.op ≠ 7) (n9 : r.op ≠ 9) (n10 : r.op ≠ 10) (n11 : r.op ≠ 11) (n13 : r.op ≠ 13) (n15 : r.op ≠ 15) (h : ∀ a', I6 v s K a' → KK a' W) : Code.wp Tryz.prog (c6 5) (Exit.then KK (bodyPost Tryz.prog Tryz.f6 R)) a W := by
  have HH := Lib.hid h
  have c0 : W.cell? ⟨K, 0, none⟩ = some (.int .i64 r.op) := (cell_of_row _ _ 0 _ _ _ hK).trans rfl
  have e1 : (r.op == 1) = false := beq_eq_false_iff_ne.2 n1
  have e5 : (r.op == 5) = false := beq_eq_false_iff_ne.2 n5
  have e7 : (r.op == 7) = false := beq_eq_false_iff_ne.2 n7
  have e9 : (r.op == 9) = false := beq_eq_false_iff_ne.2 n9
  have e10 : (r.op == 10) = false := beq_eq_false_iff_ne.2 n10
  have e11 : (r.op == 11) = false := beq_eq_false_iff_ne.2 n11
  have e13 : (r.op == 13) = false := beq_eq_false_iff_ne.2 n13
  have e15 : (r.op == 15) = false := beq_eq_false_iff_ne.2 n15
  clear hK h n1 n5 n7 n9 n10 n11 n13 n15
  obtain ⟨⟨⟨hd, hs, h0, h1, h5⟩, h8⟩, h9⟩ := hI
  obtain ⟨g, rfl⟩ := fr263 a hd hs
  have g0 : g 0 = .int .i64 v := h0
  have g1 : g 1 = .int .i64 s := h1
  have g5 : g 5 = .pointer (some ⟨K, 0, none⟩) := h5
  have g8 : g 8 = may_ Pp := h8
  have g9 : g 9 = .bool b9 := h9
  rw [g0, g1, g5, g8, g9]
  clear hd hs h0 h1 h5 h8 h9 g0 g1 g5 g8 g9
  conv => arg 2; whnf
  generalize r.op = o at *
  go_wp2
  exact HH.out _ ⟨rfl, rfl, rfl, rfl, rfl⟩
set_option maxHeartbeats 20000000 in
theorem p6_0 {Q : Exit → Act → World → Prop} {y : Code} {w : World} {v s : Int} {cs : Array Value} {a : Act} (hd : a.defers = []) (hs : a.tmps.size = 263) (h0 : a.tmps.getD 0 undef = .int .i64 v) (h1 : a.tmps.getD 1 undef = .int .i64 s) (h2 : a.tmps.getD 2 undef = .agg cs)
    (h : ∀ a', I6 v s w.heap.size a' → Code.wp Tryz.prog y Q a' (w.alloc (.cells cs 39))) : Code.wp Tryz.prog ((c6 0).seq y) Q a w := by
  have HH := Lib.hid h
  clear h
  obtain ⟨g, rfl⟩ := fr263 a hd hs
  have g0 : g 0 = .int .i64 v := h0
  have g1 : g 1 = .int .i64 s := h1
  have g2 : g 2 = .agg cs := h2
  rw [g0, g1, g2]
  clear hd hs h0 h1 h2 g0 g1 g2
  refine wp_seq ?_
  conv => arg 2; whnf
  go_wp2
  exact HH.out _ ⟨rfl, rfl, rfl, rfl, rfl⟩
theorem t6_7 : t6 7 = .ret := rfl
theorem p6_end {PP : Prop} {w0 W : World} {v s : Int} {K : Nat} {a : Act} (hI : I6 v s K a) (hB : Below w0.heap.size w0 W) : Code.wp Tryz.prog ((c6 6).seq (t6 7)) (bodyPost Tryz.prog Tryz.f6 (Yes w0 PP)) a W := by
  obtain ⟨hd, hs, h0, h1, h5⟩ := hI
  obtain ⟨g, rfl⟩ := fr263 a hd hs
  clear hd hs h0 h1 h5
  rw [t6_7]
  refine wp_seq ?_
  conv => arg 2; whnf
  go_wp2
  go_ret
  exact Yes.no hB
theorem body6 : Tryz.f6.body = some ((c6 0).seq ((c6 1).seq ((c6 2).seq ((c6 3).seq ((c6 4).seq ((c6 5).seq ((c6 6).seq (t6 7)))))))) := rfl
attribute [local irreducible] c6 t6
theorem e6 (p s : Int) (v2 : Value) (w : World) (R : Ending → World → Prop)
   (h : ∀ a : Act, a.defers = [] → a.tmps.size = 263 → a.tmps.getD 0 undef = .int .i64 p → a.tmps.getD 1 undef = .int .i64 s → a.tmps.getD 2 undef = v2 → Code.wp Tryz.prog ((c6 0).seq ((c6 1).seq ((c6 2).seq ((c6 3).seq ((c6 4).seq ((c6 5).seq ((c6 6).seq (t6 7)))))))) (bodyPost Tryz.prog Tryz.f6 R) a w) :
    Calls Tryz.prog 6 #[.int .i64 p, .int .i64 s, v2] w R := by
  refine calls_by 263 Tryz.func6 body6 Tryz.ntmps6 (by simp) fun a hd hs hg => ?_
  refine h a hd hs ?_ ?_ ?_
  all_goals (rw [hg]; rfl)
theorem IR.SIn.below_ {w w1 : World} {r : IR} {Ao A As : Option Addr} (h : r.SIn w Ao A As) (hb : Below w.heap.size w w1) : r.SIn w1 Ao A As := ⟨Kd.C_below h.1 hb, Kd.C_below h.2.1 hb, ⟨Kd.C_below h.2.2.1.1 hb, Kd.C_below h.2.2.1.2.1 hb, Kd.C_below h.2.2.1.2.2 hb⟩, Kd.C_below h.2.2.2.1 hb, Kd.C_below h.2.2.2.2.1 hb, Kd.C_below h.2.2.2.2.2 hb⟩
set_option maxHeartbeats 1000000 in
/-- ProperRequest. -/
theorem check_any (w : World) (v s : Int) (r : IR) (Ao A As : Option Addr) (co c cs : Nat) (hI : r.SIn w Ao A As) (hle : r.q.vals.length ≤ c) (hft : r.ft) :
    Calls Tryz.prog 6 #[.int .i64 v, .int .i64 s, .agg (r.sc Ao co A c As cs)] w (Yes w ((v = 3 ∨ v = 4) ∧ r.ok)) := by
  obtain ⟨⟨_, fo⟩, ft_, _, ⟨_, fv, _, _⟩, ⟨_, fe⟩, ⟨_, fs⟩, _⟩ := hft
  refine e6 v s _ w _ fun a hd hs h0 h1 h2 => ?_
  refine p6_0 hd hs h0 h1 h2 fun a1 hI1 => ?_
  have hB1 := below_alloc (Below.refl w.heap.size w) (.cells (r.sc Ao co A c As cs) 39)
  have hK1 := heap_alloc_new w (.cells (r.sc Ao co A c As cs) 39)
  refine wp_seq (p6_1 hI1 hB1 hK1 ft_ fun a2 w2 hI2 hB2 hK2 hP6 => ?_)
  refine wp_seq (p6_2 hI2 hK2 fun a3 w3 Pp hI3 h7 hb3 hH3 => ?_)
  refine wp_seq (p6_3 hI3 h7 fun a4 hI4 => ?_)
  have hK3 := blk_below hK2 hb3
  refine wp_seq (p6_4 hI4 hK3 fun a5 w5 b9 hI5 h9 hbare hb5 => ?_)
  have hK5 := blk_below hK3 hb5
  have hH5 := hH3.below_ hb5
  have hB5 := below_then (below_then hB2 hB2.size hb3) (below_then hB2 hB2.size hb3).size hb5
  have hI5' := hI.below_ hB5
  obtain ⟨hv, _, _, htx, hda, hid, hop, hev, hst⟩ := hP6
  have hq : ∀ w1 : World, Below w5.heap.size w5 w1 → Calls Tryz.prog 18 #[.int .i64 v, .agg (r.q.sc A c)] w1 (Yes w1 (r.q.ok ∧ r.q.qp.ok)) := fun w1 hb =>
    proper_any w1 v r.q A c ((hI5'.below_ hb).2.2.1) hle (fun x hx => (fv x hx).1)
  refine wp_seq ?_
  by_cases o1 : r.op = 1
  · refine p6_startup ⟨hI5, h9⟩ hK5 hB5 hH5 o1 (r.opts.map c54) (by rw [List.length_map]) (by rw [List.length_map]; exact hI5'.1) (fun x hx => ?_) (fun ⟨g1, g2, g3⟩ => ⟨hv, bare_ok (hbare g3), .inl ⟨o1, hop, fun x hx => g1 (c54 x) (List.mem_map.2 ⟨x, hx, rfl⟩), sorted_of _ g2⟩⟩)
    obtain ⟨y, hy, rfl⟩ := List.mem_map.1 hx
    exact fo y hy
  by_cases o5 : r.op = 5
  · exact p6_options ⟨hI5, h9⟩ hK5 hB5 hH5 o5 (fun g => ⟨hv, bare_ok (hbare g), .inr (.inl o5)⟩)
  by_cases o7 : r.op = 7
  · exact p6_query ⟨hI5, h9⟩ hK5 hB5 hH5 o7 _ hq (fun g => ⟨hv, g.1, .inr (.inr (.inl ⟨o7, htx, g.2⟩))⟩)
  by_cases o9 : r.op = 9
  · exact p6_prepare ⟨hI5, h9⟩ hK5 hB5 hH5 o9 (fun g => ⟨hv, bare_ok (hbare g), .inr (.inr (.inr (.inl ⟨o9, htx⟩)))⟩)
  by_cases o10 : r.op = 10
  · exact p6_execute ⟨hI5, h9⟩ hK5 hB5 hH5 o10 _ hq (fun g => ⟨hv, g.1, .inr (.inr (.inr (.inr (.inl ⟨o10, hid, g.2⟩))))⟩)
  by_cases o11 : r.op = 11
  · exact p6_register ⟨hI5, h9⟩ hK5 hB5 hH5 o11 hI5'.2.2.2.1 fe (fun g => ⟨hv, bare_ok (hbare g.2), .inr (.inr (.inr (.inr (.inr (.inl ⟨o11, hev, g.1⟩)))))⟩)
  by_cases o13 : r.op = 13
  · refine p6_batch ⟨hI5, h9⟩ hK5 hB5 hH5 o13 _ hq (∀ x ∈ r.sts.map c58, SOk x) (fun w1 hb => ?_) (fun ⟨g1, g2, g3, g4⟩ => ⟨hv, g3.1, .inr (.inr (.inr (.inr (.inr (.inr (.inl ⟨o13, g1, g2, hst, (sok_of g4).1, (sok_of g4).2⟩))))))⟩)
    have h := sstatements_any w1 As cs (r.sts.map c58) v (by rw [List.length_map]; exact (hI5'.below_ hb).2.2.2.2.1) (fun x hx => by
      obtain ⟨y, hy, rfl⟩ := List.mem_map.1 hx
      refine ⟨(fs y hy).1, fun z hz => ?_⟩
      obtain ⟨u, hu, rfl⟩ := List.mem_map.1 (show z ∈ y.f2.map c87 from hz)
      exact ((fs y hy).2.2.2 u hu).1)
    rw [List.length_map] at h
    exact h
  by_cases o15 : r.op = 15
  · exact p6_auth ⟨hI5, h9⟩ hK5 hB5 hH5 o15 (fun g => ⟨hv, bare_ok (hbare g), .inr (.inr (.inr (.inr (.inr (.inr (.inr ⟨o15, hda⟩))))))⟩)
  exact p6_none ⟨hI5, h9⟩ hK5 o1 o5 o7 o9 o10 o11 o13 o15 fun a6 hI6 => p6_end hI6 hB5
end Go.Proofs.YtammjbmfiakbnaaGreatDoor
