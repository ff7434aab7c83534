/-
  The statement's bounds on sizes: what it means that they hold. The statement's bounds on sizes: a request. The reference's checks: a name; a query with nothing in it.
-/
import Derived.Test.YtammjbmfiakbnaaGreatDoorA5
namespace Go.Proofs.YtammjbmfiakbnaaGreatDoor
set_option maxHeartbeats 2000000
set_option maxRecDepth 100000
set_option linter.unusedSimpArgs false
set_option linter.unusedVariables false
open Go.RowKit Go.Proofs.YtammjbmfiakbnaaGreatDoorW.PrintWords Go.Proofs.YtammjbmfiakbnaaGreatDoorW.PrintLast Go.Proofs.YtammjbmfiakbnaaGreatDoorW.PrintMore
open Go.Proofs.YtammjbmfiakbnaaGreatDoor.PFnRequest
/-- A truth value is handed back; where it is true, P holds. -/
def Yes (w : World) (P : Prop) (e : Ending) (w' : World) : Prop := ∃ b : Bool, e = .returned (.bool b) ∧ Below w.heap.size w w' ∧ (b = true → P)
theorem Yes.no {w w' : World} {P : Prop} (hb : Below w.heap.size w w') : Yes w P (.returned (.bool false)) w' := ⟨false, rfl, hb, fun h => by cases h⟩
theorem Yes.yes {w w' : World} {P : Prop} (hb : Below w.heap.size w w') (h : P) : Yes w P (.returned (.bool true)) w' := ⟨true, rfl, hb, fun _ => h⟩
/-- No longer than the statement's bound. -/
def Ft (n : Nat) : Prop := n ≤ 2147483647
set_option maxHeartbeats 1000000 in
theorem zz6_any (w : World) (a b : ByteArray)  : Calls Tryz.prog 32 #[.agg #[.string a, .string b]] w (Yes w (Ft a.size ∧ Ft b.size)) := by
  have HB := Lib.hid (below_alloc (Below.refl w.heap.size w) (.cells #[.string a, .string b] 53))
  go_enter Tryz.func32, Tryz.ntmps32
  go_wp2
  all_goals (go_ret)
  all_goals first | exact Yes.no HB.out | exact Yes.yes HB.out ⟨by unfold Ft; omega, by unfold Ft; omega⟩
set_option maxHeartbeats 1000000 in
theorem zz9_any (w : World) (a : ByteArray) (u n : Bool) (A : Option Addr) (l c : Nat)  : Calls Tryz.prog 53 #[.agg #[.string a, .bool u, .bool n, .slice A l c]] w (Yes w (Ft a.size ∧ Ft l)) := by
  have HB := Lib.hid (below_alloc (Below.refl w.heap.size w) (.cells #[.string a, .bool u, .bool n, .slice A l c] 93))
  go_enter Tryz.func53, Tryz.ntmps53
  go_wp2
  all_goals (go_ret)
  all_goals first | exact Yes.no HB.out | exact Yes.yes HB.out ⟨by unfold Ft; omega, by unfold Ft; omega⟩
def Ft53 (x : S53) : Prop := Ft x.f0.size ∧ Ft x.f1.size
set_option maxHeartbeats 1000000 in
theorem zz5_any (w : World) (A : Option Addr) (c : Nat) (xs : List S53) (hC : Kd.C k53 w A xs.length xs) : Calls Tryz.prog 10 #[.slice A xs.length c] w (Yes w (Ft xs.length ∧ ∀ x ∈ xs, Ft53 x)) := by
  have HC := Lib.hid hC
  have hmax : xs.length ≤ 9223372036854775807 := hC.2.1
  clear hC
  by_cases h0 : xs.length ≤ 2147483647
  · go_enter Tryz.func10, Tryz.ntmps10
    go_wp2
    go_loopw [10] (fun v10 W => ∃ i : Nat, v10 = .int .i64 i ∧ i ≤ xs.length ∧ Hid (Below w.heap.size w W ∧ ∀ x ∈ xs.take i, Ft53 x)) (fun v10 _ => xs.length - (intOf v10).toNat)
    case atStart => exact ⟨0, rfl, by omega, Lib.hid ⟨Below.refl _ _, fun x hx => by simp at hx⟩⟩
    case round =>
      obtain ⟨i, rfl, hi, HI⟩ := hrel
      by_cases hlt : i < xs.length
      · have hx : xs[i]? = some xs[i] := List.getElem?_eq_getElem hlt
        obtain ⟨ad, rfl, hx0, hx1⟩ := at_T53 HC.out (i : Int) (by omega) (by omega)
        have hrd : rd_T53 xs (i : Int) = xs[i] := by simp [rd_T53, List.getD_eq_getElem?_getD, hx]
        rw [hrd] at hx0 hx1
        rw [Int.toNat_natCast] at hx0 hx1
        have kx0 := pw_cell_below HI.out.1 hx0
        have kx1 := pw_cell_below HI.out.1 hx1
        have Htk := Lib.hid (List.take_succ_eq_append_getElem hlt)
        generalize xs[i] = x at *
        clear hx hrd hx0 hx1
        obtain ⟨xk, xv⟩ := x
        simp only at kx0 kx1
        have HBa := Lib.hid (below_then HI.out.1 HI.out.1.size (below_alloc (Below.refl wr.heap.size wr) (.cells #[.string xk, .string xv] 53)))
        go_wp2_with fail
        refine (zz6_any _ xk xv).mono ?_
        rintro e w2 ⟨b, rfl, hb2, hP⟩
        have HB2 := Lib.hid (below_then HBa.out HBa.out.size hb2)
        clear hb2
        cases b with
        | true =>
          have HP := Lib.hid (hP rfl)
          clear hP
          go_wp2
          go_roundw
          case rel =>
            refine ⟨i + 1, by go_num, by omega, Lib.hid ⟨HB2.out, fun y hy => ?_⟩⟩
            rw [Htk.out] at hy
            rcases List.mem_append.1 hy with hy | hy
            · exact HI.out.2 y hy
            · obtain rfl := List.mem_singleton.1 hy
              exact HP.out
          case measure => simp [intOf]; omega
        | false =>
          clear hP
          go_wp2
          go_ret
          exact Yes.no HB2.out
      · have hii : i = xs.length := by omega
        subst hii
        rw [List.take_length] at HI
        go_wp2
        go_ret
        exact Yes.yes HI.out.1 ⟨h0, HI.out.2⟩
  · go_enter Tryz.func10, Tryz.ntmps10
    go_wp2
    go_ret
    exact Yes.no (Below.refl _ _)
def Ft93 (x : S93) : Prop := Ft x.f0.size ∧ Ft x.f3.length
set_option maxHeartbeats 1000000 in
theorem zz8_any (w : World) (A : Option Addr) (c : Nat) (xs : List S93) (hC : Kd.C k93 w A xs.length xs) : Calls Tryz.prog 33 #[.slice A xs.length c] w (Yes w (Ft xs.length ∧ ∀ x ∈ xs, Ft93 x)) := by
  have HC := Lib.hid hC
  have hmax : xs.length ≤ 9223372036854775807 := hC.2.1
  clear hC
  by_cases h0 : xs.length ≤ 2147483647
  · go_enter Tryz.func33, Tryz.ntmps33
    go_wp2
    go_loopw [10] (fun v10 W => ∃ i : Nat, v10 = .int .i64 i ∧ i ≤ xs.length ∧ Hid (Below w.heap.size w W ∧ ∀ x ∈ xs.take i, Ft93 x)) (fun v10 _ => xs.length - (intOf v10).toNat)
    case atStart => exact ⟨0, rfl, by omega, Lib.hid ⟨Below.refl _ _, fun x hx => by simp at hx⟩⟩
    case round =>
      obtain ⟨i, rfl, hi, HI⟩ := hrel
      by_cases hlt : i < xs.length
      · have hx : xs[i]? = some xs[i] := List.getElem?_eq_getElem hlt
        obtain ⟨ad, A3, c3, rfl, hx0, hx1, hx2, hx3, hl3, hi3⟩ := at_T93 HC.out (i : Int) (by omega) (by omega)
        have hrd : rd_T93 xs (i : Int) = xs[i] := by simp [rd_T93, List.getD_eq_getElem?_getD, hx]
        rw [hrd] at hx0 hx1 hx2 hx3 hl3 hi3
        rw [Int.toNat_natCast] at hx0 hx1 hx2 hx3
        have kx0 := pw_cell_below HI.out.1 hx0
        have kx1 := pw_cell_below HI.out.1 hx1
        have kx2 := pw_cell_below HI.out.1 hx2
        have kx3 := pw_cell_below HI.out.1 hx3
        have Htk := Lib.hid (List.take_succ_eq_append_getElem hlt)
        generalize xs[i] = x at *
        clear hx hrd hx0 hx1 hx2 hx3
        obtain ⟨xn, xu, xl, xd⟩ := x
        simp only at kx0 kx1 kx2 kx3 
        have HBa := Lib.hid (below_then HI.out.1 HI.out.1.size (below_alloc (Below.refl wr.heap.size wr) (.cells #[.string xn, .bool xu, .bool xl, .slice A3 xd.length c3] 93)))
        clear hl3 hi3
        go_wp2_with fail
        refine (zz9_any _ xn xu xl A3 xd.length c3).mono ?_
        rintro e w2 ⟨b, rfl, hb2, hP⟩
        have HB2 := Lib.hid (below_then HBa.out HBa.out.size hb2)
        clear hb2
        cases b with
        | true =>
          have HP := Lib.hid (hP rfl)
          clear hP
          go_wp2
          go_roundw
          case rel =>
            refine ⟨i + 1, by go_num, by omega, Lib.hid ⟨HB2.out, fun y hy => ?_⟩⟩
            rw [Htk.out] at hy
            rcases List.mem_append.1 hy with hy | hy
            · exact HI.out.2 y hy
            · obtain rfl := List.mem_singleton.1 hy
              exact HP.out
          case measure => simp [intOf]; omega
        | false =>
          clear hP
          go_wp2
          go_ret
          exact Yes.no HB2.out
      · have hii : i = xs.length := by omega
        subst hii
        rw [List.take_length] at HI
        go_wp2
        go_ret
        exact Yes.yes HI.out.1 ⟨h0, HI.out.2⟩
  · go_enter Tryz.func33, Tryz.ntmps33
    go_wp2
    go_ret
    exact Yes.no (Below.refl _ _)
set_option maxHeartbeats 1000000 in
theorem zz7_any (w : World) (q : IQ) (hC : Kd.C k93 w q.A q.vals.length q.vals) : Calls Tryz.prog 11 #[.agg q.cells] w (Yes w (Ft q.vals.length ∧ (∀ x ∈ q.vals, Ft93 x) ∧ Ft q.paging.length ∧ Ft q.ts.length)) := by
  have HB := Lib.hid (below_alloc (Below.refl w.heap.size w) (.cells q.cells 27))
  have HK := Lib.hid (heap_alloc_new w (.cells q.cells 27))
  have HC := Lib.hid (Kd.C_below hC HB.out)
  clear hC
  go_enter Tryz.func11, Tryz.ntmps11
  go_wp2_with fail
  refine (zz8_any _ q.A q.c q.vals HC.out).mono ?_
  rintro e w2 ⟨b, rfl, hb2, hP⟩
  have HB2 := Lib.hid (below_then HB.out HB.out.size hb2)
  have HK2 := Lib.hid (blk_below HK.out hb2)
  have k4 : w2.cell? ⟨w.heap.size, 4, none⟩ = some (.slice q.A4 q.paging.length q.c4) := (cell_of_row _ _ 4 _ _ _ HK2.out).trans rfl
  have k6 : w2.cell? ⟨w.heap.size, 6, none⟩ = some (.slice q.A6 q.ts.length q.c6) := (cell_of_row _ _ 6 _ _ _ HK2.out).trans rfl
  clear hb2
  cases b with
  | false =>
    clear hP
    go_wp2
    go_ret
    exact Yes.no HB2.out
  | true =>
    have HP := Lib.hid (hP rfl)
    clear hP
    go_wp2
    all_goals (go_ret)
    all_goals first | exact Yes.no HB2.out | exact Yes.yes HB2.out ⟨HP.out.1, HP.out.2, by unfold Ft; omega, by unfold Ft; omega⟩
set_option maxHeartbeats 1000000 in
theorem zz2_any (w : World) (A : Option Addr) (c : Nat) (xs : List ByteArray) (hC : Kd.C Kd.string w A xs.length xs) : Calls Tryz.prog 12 #[.slice A xs.length c] w (Yes w (Ft xs.length ∧ ∀ x ∈ xs, Ft x.size)) := by
  have HE := Lib.hid (Kd.reads_of_C (d := ByteArray.empty) hC)
  have hmax : xs.length ≤ 9223372036854775807 := hC.2.1
  clear hC
  by_cases h0 : xs.length ≤ 2147483647
  · go_enter Tryz.func12, Tryz.ntmps12
    go_wp2
    go_loop [10] (fun v10 => ∃ i : Nat, v10 = .int .i64 i ∧ i ≤ xs.length ∧ Hid (∀ x ∈ xs.take i, Ft x.size)) (fun v10 => xs.length - (intOf v10).toNat)
    case atStart => exact ⟨0, rfl, by omega, Lib.hid (fun x hx => by simp at hx)⟩
    case round =>
      obtain ⟨i, rfl, hi, HI⟩ := hrel
      by_cases hlt : i < xs.length
      · have hx : xs[i]? = some xs[i] := List.getElem?_eq_getElem hlt
        obtain ⟨ad, rfl, hc⟩ := HE.out.at_ (i : Int) (by omega) (by omega)
        have hrd : rdOf ByteArray.empty xs (i : Int) = xs[i] := by simp [rdOf, List.getD_eq_getElem?_getD, hx]
        rw [hrd, Int.toNat_natCast] at hc
        have Htk := Lib.hid (List.take_succ_eq_append_getElem hlt)
        clear hx hrd
        generalize xs[i] = x at *
        by_cases hs : x.size ≤ 2147483647
        · have Hs := Lib.hid hs
          go_wp2
          go_round
          case rel =>
            refine ⟨i + 1, by go_num, by omega, Lib.hid (fun y hy => ?_)⟩
            rw [Htk.out] at hy
            rcases List.mem_append.1 hy with hy | hy
            · exact HI.out y hy
            · obtain rfl := List.mem_singleton.1 hy
              exact Hs.out
          case measure => simp [intOf]; omega
        · go_wp2
          go_ret
          exact Yes.no (Below.refl _ _)
      · have hii : i = xs.length := by omega
        subst hii
        rw [List.take_length] at HI
        go_wp2
        go_ret
        exact Yes.yes (Below.refl _ _) ⟨h0, HI.out⟩
  · go_enter Tryz.func12, Tryz.ntmps12
    go_wp2
    go_ret
    exact Yes.no (Below.refl _ _)
set_option maxHeartbeats 1000000 in
theorem zz11_any (w : World) (a : ByteArray) (A1 : Option Addr) (l1 c1 : Nat) (A2 : Option Addr) (c2 : Nat) (vs : List S93) (hC : Kd.C k93 w A2 vs.length vs) : Calls Tryz.prog 34 #[.agg #[.string a, .slice A1 l1 c1, .slice A2 vs.length c2]] w (Yes w (Ft a.size ∧ Ft l1 ∧ Ft vs.length ∧ ∀ x ∈ vs, Ft93 x)) := by
  have HB := Lib.hid (below_alloc (Below.refl w.heap.size w) (.cells #[.string a, .slice A1 l1 c1, .slice A2 vs.length c2] 56))
  have HC := Lib.hid (Kd.C_below hC HB.out)
  clear hC
  by_cases ha : a.size ≤ 2147483647
  · by_cases hl : l1 ≤ 2147483647
    · go_enter Tryz.func34, Tryz.ntmps34
      go_wp2_with fail
      refine (zz8_any _ A2 c2 vs HC.out).mono ?_
      rintro e w2 ⟨b, rfl, hb2, hP⟩
      have HB2 := Lib.hid (below_then HB.out HB.out.size hb2)
      clear hb2
      cases b with
      | false =>
        clear hP
        go_wp2
        go_ret
        exact Yes.no HB2.out
      | true =>
        have HP := Lib.hid (hP rfl)
        clear hP
        go_wp2
        go_ret
        exact Yes.yes HB2.out ⟨ha, hl, HP.out⟩
    · go_enter Tryz.func34, Tryz.ntmps34
      go_wp2
      go_ret
      exact Yes.no HB.out
  · go_enter Tryz.func34, Tryz.ntmps34
    go_wp2
    go_ret
    exact Yes.no HB.out
def Ft56 (x : S56) : Prop := Ft x.f0.size ∧ Ft x.f1.length ∧ Ft x.f2.length ∧ ∀ y ∈ x.f2, Ft93 y
set_option maxHeartbeats 1000000 in
theorem zz10_any (w : World) (A : Option Addr) (c : Nat) (xs : List S56) (hC : Kd.C k56 w A xs.length xs) : Calls Tryz.prog 13 #[.slice A xs.length c] w (Yes w (Ft xs.length ∧ ∀ x ∈ xs, Ft56 x)) := by
  have HC := Lib.hid hC
  have hmax : xs.length ≤ 9223372036854775807 := hC.2.1
  clear hC
  by_cases h0 : xs.length ≤ 2147483647
  · go_enter Tryz.func13, Tryz.ntmps13
    go_wp2
    go_loopw [10] (fun v10 W => ∃ i : Nat, v10 = .int .i64 i ∧ i ≤ xs.length ∧ Hid (Below w.heap.size w W ∧ ∀ x ∈ xs.take i, Ft56 x)) (fun v10 _ => xs.length - (intOf v10).toNat)
    case atStart => exact ⟨0, rfl, by omega, Lib.hid ⟨Below.refl _ _, fun x hx => by simp at hx⟩⟩
    case round =>
      obtain ⟨i, rfl, hi, HI⟩ := hrel
      by_cases hlt : i < xs.length
      · have hx : xs[i]? = some xs[i] := List.getElem?_eq_getElem hlt
        obtain ⟨ad, A1, c1, A2, c2, rfl, hx0, hx1, hx2, hl1, hi1, hl2, hi2⟩ := at_T56 HC.out (i : Int) (by omega) (by omega)
        have hrd : rd_T56 xs (i : Int) = xs[i] := by simp [rd_T56, List.getD_eq_getElem?_getD, hx]
        rw [hrd] at hx0 hx1 hx2 hl1 hi1 hl2 hi2
        rw [Int.toNat_natCast] at hx0 hx1 hx2
        have kx0 := pw_cell_below HI.out.1 hx0
        have kx1 := pw_cell_below HI.out.1 hx1
        have kx2 := pw_cell_below HI.out.1 hx2
        have Htk := Lib.hid (List.take_succ_eq_append_getElem hlt)
        generalize xs[i] = x at *
        clear hx hrd hx0 hx1 hx2
        obtain ⟨st, id, vs⟩ := x
        simp only at kx0 kx1 kx2 hi2
        have HBa := Lib.hid (below_then HI.out.1 HI.out.1.size (below_alloc (Below.refl wr.heap.size wr) (.cells #[.string st, .slice A1 id.length c1, .slice A2 vs.length c2] 56)))
        have HV := Lib.hid (Kd.C_below (Kd.C_below hi2 HI.out.1) (below_alloc (Below.refl wr.heap.size wr) (.cells #[.string st, .slice A1 id.length c1, .slice A2 vs.length c2] 56)))
        clear hl1 hi1 hl2 hi2
        go_wp2_with fail
        refine (zz11_any _ st A1 id.length c1 A2 c2 vs HV.out).mono ?_
        rintro e w2 ⟨b, rfl, hb2, hP⟩
        have HB2 := Lib.hid (below_then HBa.out HBa.out.size hb2)
        clear hb2
        cases b with
        | true =>
          have HP := Lib.hid (hP rfl)
          clear hP
          go_wp2
          go_roundw
          case rel =>
            refine ⟨i + 1, by go_num, by omega, Lib.hid ⟨HB2.out, fun y hy => ?_⟩⟩
            rw [Htk.out] at hy
            rcases List.mem_append.1 hy with hy | hy
            · exact HI.out.2 y hy
            · obtain rfl := List.mem_singleton.1 hy
              exact HP.out
          case measure => simp [intOf]; omega
        | false =>
          clear hP
          go_wp2
          go_ret
          exact Yes.no HB2.out
      · have hii : i = xs.length := by omega
        subst hii
        rw [List.take_length] at HI
        go_wp2
        go_ret
        exact Yes.yes HI.out.1 ⟨h0, HI.out.2⟩
  · go_enter Tryz.func13, Tryz.ntmps13
    go_wp2
    go_ret
    exact Yes.no (Below.refl _ _)
/-- A request within the statement's bounds. -/
def IR.ft (r : IR) : Prop := (Ft r.opts.length ∧ ∀ x ∈ r.opts, Ft53 x) ∧ Ft r.text.size ∧ Ft r.id.length ∧ (Ft r.q.vals.length ∧ (∀ x ∈ r.q.vals, Ft93 x) ∧ Ft r.q.paging.length ∧ Ft r.q.ts.length) ∧ (Ft r.ev.length ∧ ∀ x ∈ r.ev, Ft x.size) ∧ (Ft r.sts.length ∧ ∀ x ∈ r.sts, Ft56 x) ∧ Ft r.data.length
set_option maxHeartbeats 4000000 in
theorem zz4_any (w : World) (r : IR) (hI : r.In w) : Calls Tryz.prog 4 #[.agg r.cells] w (Yes w r.ft) := by
  have HB0 := Lib.hid (below_alloc (Below.refl w.heap.size w) (.cells r.cells 31))
  have HK0 := Lib.hid (heap_alloc_new w (.cells r.cells 31))
  have HI0 := Lib.hid (hI.below_ HB0.out)
  clear hI
  go_enter Tryz.func4, Tryz.ntmps4
  go_wp2_with fail
  refine (zz5_any _ r.Ao r.co r.opts HI0.out.1).mono ?_
  rintro e w1 ⟨b, rfl, hb, hP⟩
  have HB1 := Lib.hid (below_then HB0.out HB0.out.size hb)
  have HK1 := Lib.hid (blk_below HK0.out hb)
  have HI1 := Lib.hid (HI0.out.below_ hb)
  have k2_1 : w1.cell? ⟨w.heap.size, 2, none⟩ = some (.string r.text) := (cell_of_row _ _ 2 _ _ _ HK1.out).trans rfl
  have k3_1 : w1.cell? ⟨w.heap.size, 3, none⟩ = some (.slice r.Ai r.id.length r.ci) := (cell_of_row _ _ 3 _ _ _ HK1.out).trans rfl
  have k4_1 : w1.cell? ⟨w.heap.size, 4, none⟩ = some (.int .i64 r.q.cons) := (cell_of_row _ _ 4 _ _ _ HK1.out).trans rfl
  have k5_1 : w1.cell? ⟨w.heap.size, 5, none⟩ = some (.bool r.q.skip) := (cell_of_row _ _ 5 _ _ _ HK1.out).trans rfl
  have k6_1 : w1.cell? ⟨w.heap.size, 6, none⟩ = some (.slice r.q.A r.q.vals.length r.q.c) := (cell_of_row _ _ 6 _ _ _ HK1.out).trans rfl
  have k7_1 : w1.cell? ⟨w.heap.size, 7, none⟩ = some (.int .i64 r.q.page) := (cell_of_row _ _ 7 _ _ _ HK1.out).trans rfl
  have k8_1 : w1.cell? ⟨w.heap.size, 8, none⟩ = some (.slice r.q.A4 r.q.paging.length r.q.c4) := (cell_of_row _ _ 8 _ _ _ HK1.out).trans rfl
  have k9_1 : w1.cell? ⟨w.heap.size, 9, none⟩ = some (.int .i64 r.q.serial) := (cell_of_row _ _ 9 _ _ _ HK1.out).trans rfl
  have k10_1 : w1.cell? ⟨w.heap.size, 10, none⟩ = some (.slice r.q.A6 r.q.ts.length r.q.c6) := (cell_of_row _ _ 10 _ _ _ HK1.out).trans rfl
  clear hb
  cases b with
  | false =>
    clear hP
    go_wp2
    go_ret
    exact Yes.no HB1.out
  | true =>
    have HP1 := Lib.hid (hP rfl)
    clear hP
    by_cases h2 : r.text.size ≤ 2147483647
    · by_cases h3 : r.id.length ≤ 2147483647
      · have H2 := Lib.hid (And.intro h2 h3)
        go_wp2_with fail
        refine (zz7_any _ r.q HI1.out.2.2.1.1).mono ?_
        rintro e w2 ⟨b, rfl, hb, hP⟩
        have HB2 := Lib.hid (below_then HB1.out HB1.out.size hb)
        have HK2 := Lib.hid (blk_below HK1.out hb)
        have HI2 := Lib.hid (HI1.out.below_ hb)
        have k11_2 : w2.cell? ⟨w.heap.size, 11, none⟩ = some (.slice r.Ae r.ev.length r.ce) := (cell_of_row _ _ 11 _ _ _ HK2.out).trans rfl
        clear hb
        cases b with
        | false =>
          clear hP
          go_wp2
          go_ret
          exact Yes.no HB2.out
        | true =>
          have HP2 := Lib.hid (hP rfl)
          clear hP
          go_wp2_with fail
          refine (zz2_any _ r.Ae r.ce r.ev HI2.out.2.2.2.1).mono ?_
          rintro e w3 ⟨b, rfl, hb, hP⟩
          have HB3 := Lib.hid (below_then HB2.out HB2.out.size hb)
          have HK3 := Lib.hid (blk_below HK2.out hb)
          have HI3 := Lib.hid (HI2.out.below_ hb)
          have k13_3 : w3.cell? ⟨w.heap.size, 13, none⟩ = some (.slice r.As r.sts.length r.cs) := (cell_of_row _ _ 13 _ _ _ HK3.out).trans rfl
          clear hb
          cases b with
          | false =>
            clear hP
            go_wp2
            go_ret
            exact Yes.no HB3.out
          | true =>
            have HP3 := Lib.hid (hP rfl)
            clear hP
            go_wp2_with fail
            refine (zz10_any _ r.As r.cs r.sts HI3.out.2.2.2.2.1).mono ?_
            rintro e w4 ⟨b, rfl, hb, hP⟩
            have HB4 := Lib.hid (below_then HB3.out HB3.out.size hb)
            have HK4 := Lib.hid (blk_below HK3.out hb)
            have HI4 := Lib.hid (HI3.out.below_ hb)
            have k14_4 : w4.cell? ⟨w.heap.size, 14, none⟩ = some (.slice r.Ad r.data.length r.cd) := (cell_of_row _ _ 14 _ _ _ HK4.out).trans rfl
            clear hb
            cases b with
            | false =>
              clear hP
              go_wp2
              go_ret
              exact Yes.no HB4.out
            | true =>
              have HP4 := Lib.hid (hP rfl)
              clear hP
              go_wp2
              all_goals (go_ret)
              all_goals first | exact Yes.no HB4.out | exact Yes.yes HB4.out ⟨HP1.out, H2.out.1, H2.out.2, HP2.out, HP3.out, HP4.out, by unfold Ft; omega⟩
      · go_wp2
        go_ret
        exact Yes.no HB1.out
    · go_wp2
      go_ret
      exact Yes.no HB1.out
theorem ascii_any (w : World) (s : ByteArray) (hs : Ft s.size) : Calls Tryz.prog 15 #[.string s] w (Yes w (s.size ≤ 100)) := by
  unfold Ft at hs
  go_enter Tryz.func15, Tryz.ntmps15
  go_wp2
  go_loopw [3, 6] (fun u3 v6 W => ∃ i : Nat, v6 = .int .i64 i ∧ i ≤ s.size ∧ Hid (Below w.heap.size w W)) (fun _ v6 _ => s.size - (intOf v6).toNat)
  case atStart => exact ⟨0, rfl, by omega, Lib.hid (Below.refl _ _)⟩
  case round =>
    obtain ⟨i, rfl, hi, HI⟩ := hrel
    by_cases hlt : i < s.size
    · have hlt2 : (i : Int).toNat < s.size := by omega
      go_wp2
      all_goals first
        | (go_ret; exact Yes.no HI.out)
        | (go_roundw
           case rel => exact ⟨i + 1, by go_num, by omega, HI⟩
           case measure => simp [intOf]; omega)
    · have hii : i = s.size := by omega
      subst hii
      go_wp2
      go_ret
      by_cases h : s.size ≤ 100
      · exact ⟨_, rfl, HI.out, fun _ => h⟩
      · exact ⟨_, rfl, HI.out, fun h2 => by simp at h2; omega⟩
theorem nothing_any (w : World) (q : IQ) (A : Option Addr) (c : Nat) : Calls Tryz.prog 17 #[.agg (q.sc A c)] w (Yes w True) := by
  unfold IQ.sc at *
  go_enter Tryz.func17, Tryz.ntmps17
  go_wp2
  all_goals (go_ret)
  all_goals exact ⟨_, rfl, below_alloc (Below.refl _ _) _, fun _ => trivial⟩
end Go.Proofs.YtammjbmfiakbnaaGreatDoor
