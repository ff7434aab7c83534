/-
  A region's operations, one at a time, guarded or not; the reference's check of what may be there. The reference's checks: the statements of a batch.
-/
import Derived.Test.YtammjbmfiakbnaaGreatDoorE2
namespace Go.Proofs.YtammjbmfiakbnaaGreatDoor
set_option maxHeartbeats 2000000
set_option maxRecDepth 100000
set_option linter.unusedSimpArgs false
set_option linter.unusedVariables false
open Go.RowKit Go.Proofs.YtammjbmfiakbnaaGreatDoorW.PrintWords Go.Proofs.YtammjbmfiakbnaaGreatDoorW.PrintLast Go.Proofs.YtammjbmfiakbnaaGreatDoorW.PrintMore
open Go.Proofs.YtammjbmfiakbnaaGreatDoor.PFnRequest
section
variable {P : Program} {ops : Array Oper} {Q : Exit → Act → World → Prop} {a a' : Act} {w : World} {oi : Oper} {N : Option Tmp}
theorem l_drop (k : Nat) (hi : ops[k]? = some oi) : ops.toList.drop k = oi :: ops.toList.drop (k + 1) := by
  have h : ops.toList[k]? = some oi := by simpa using hi
  obtain ⟨hk, e⟩ := List.getElem?_eq_some_iff.1 h
  rw [List.drop_eq_getElem_cons hk, e]
theorem l_off (k : Nat) (hi : ops[k]? = some oi) (hN : oi.dst = N) (hw : Region.wanted oi (yielded ops a.tmps) = false) (ha : a.put N undef = a') (h : wpList P ops Q (ops.toList.drop (k + 1)) a' w) : wpList P ops Q (ops.toList.drop k) a w := by
  subst hN
  subst ha
  rw [l_drop k hi]
  exact wpList_skip hw h
theorem l_any (k : Nat) (hi : ops[k]? = some oi) (hN : oi.dst = N) (h : ∀ K : Act → World → Prop, Hid (∀ a w, wpList P ops Q (ops.toList.drop (k + 1)) a w → K a w) → if Region.wanted oi (yielded ops a.tmps) = true then Oper.wp P oi a w K Q else K (a.put N undef) w) : wpList P ops Q (ops.toList.drop k) a w := by
  subst hN
  rw [l_drop k hi]
  exact wpList_step fun K hK => h K (Lib.hid hK)
theorem l_on (k : Nat) {v : Value} (hi : ops[k]? = some oi) (hN : oi.dst = N) (hw : Region.wanted oi (yielded ops a.tmps) = true) (hy : (execOp a.eval oi).run P w = .ok (.value v) w) (ha : a.put N v = a') (h : wpList P ops Q (ops.toList.drop (k + 1)) a' w) : wpList P ops Q (ops.toList.drop k) a w := by
  subst ha
  exact l_any k hi hN fun K hK => value_ hw hN hy (hK.out _ _ h)
theorem l_f {t : Tmp} {k : Nat} (h : wpList P ops Q (ops.toList.drop (k + 1)) a' w) (hi : ops[k]? = some oi := by rfl) (hN : oi.dst = some t := by rfl) (hw : Region.wanted oi (yielded ops a.tmps) = false := by rfl) (ha : a.put (some t) undef = a' := by first | (simp only [Act.put, List.setIfInBounds_toArray, List.set_cons_zero, List.set_cons_succ, i64_w, i32_w]; rfl) | rfl) : wpList P ops Q (ops.toList.drop k) a w := l_off k hi hN hw ha h
theorem l_o {t : Tmp} {k : Nat} {v : Value} (h : wpList P ops Q (ops.toList.drop (k + 1)) a' w) (hi : ops[k]? = some oi := by rfl) (hN : oi.dst = some t := by rfl) (hw : Region.wanted oi (yielded ops a.tmps) = true := by rfl) (hy : (execOp a.eval oi).run P w = .ok (.value v) w := by (go_simp; with_reducible rfl)) (ha : a.put (some t) v = a' := by (simp only [Act.put, List.setIfInBounds_toArray, List.set_cons_zero, List.set_cons_succ, i64_w, i32_w]; rfl)) : wpList P ops Q (ops.toList.drop k) a w := l_on k hi hN hw hy ha h
theorem l_norm {l : List Oper} (ha : a = a') (h : wpList P ops Q l a' w) : wpList P ops Q l a w := ha ▸ h
theorem l_done (k : Nat) (hk : ops.toList.drop k = []) (h : Q .normal a w) : wpList P ops Q (ops.toList.drop k) a w := by rw [hk]; exact h
theorem l_start {id : Nat} (h : wpList P ops Q (ops.toList.drop 0) a w) : (Code.region id ops false).wp P Q a w := wp_region_list h
/-- What the operations from m on need is shown once, for all the roads there. -/
theorem l_cut (k m : Nat) (J : Act → World → Prop) (h2 : ∀ a w, J a w → wpList P ops Q (ops.toList.drop m) a w) (h1 : (∀ a w, J a w → wpList P ops Q (ops.toList.drop m) a w) → wpList P ops Q (ops.toList.drop k) a w) : wpList P ops Q (ops.toList.drop k) a w := h1 h2
end
theorem nothing2_any (w : World) (q : IQ) (A : Option Addr) (c : Nat) : Calls Tryz.prog 17 #[.agg (q.sc A c)] w (Yes w (q.vals.length = 0 ∧ q.page = 0 ∧ q.paging.length = 0)) := by
  unfold IQ.sc
  generalize hv : q.vals.length = n
  generalize hp : q.page = pg
  generalize hg : q.paging.length = m
  clear hv hp hg
  go_enter Tryz.func17, Tryz.ntmps17
  go_wp2
  all_goals (go_ret)
  all_goals first
    | exact Yes.no (below_alloc (Below.refl _ _) _)
    | exact ⟨_, rfl, below_alloc (Below.refl _ _) _, fun h => ⟨by omega, by omega, by simp at h; omega⟩⟩
theorem may_any (w : World) (P B : Nat) (A : Option Addr) (kc : Nat) (ks : List Int) (hP : w.cell? ⟨P, 0, none⟩ = some (.slice (some ⟨B, 0, none⟩) 6 6)) (hB : ∀ i : Nat, i < 6 → ∃ b, w.cell? ⟨B, i, none⟩ = some (.bool b)) (hk : ReadsInt w .i64 A ks.length ks) (hn : ks.length ≤ 100) :
    Calls Tryz.prog 16 #[.slice A ks.length kc, .pointer (some ⟨P, 0, none⟩)] w (Yes w True) := by
  have HB := Lib.hid hB
  have HK := Lib.hid hk
  clear hB hk
  go_enter Tryz.func16, Tryz.ntmps16
  go_wp2
  go_loopw [11] (fun v11 W => ∃ i : Nat, v11 = .int .i64 i ∧ i ≤ 6 ∧ Hid (Below w.heap.size w W)) (fun v11 _ => 6 - (intOf v11).toNat)
  case atStart => exact ⟨0, rfl, by omega, Lib.hid (Below.refl _ _)⟩
  case round =>
    obtain ⟨i, rfl, hi, HI⟩ := hrel
    by_cases hlt : i < 6
    · obtain ⟨b, hb⟩ := HB.out i hlt
      have kb := pw_cell_below HI.out hb
      clear hb
      go_wp2
      go_loopw [6, 20] (fun v6 v20 W2 => ∃ (j : Nat) (t : Bool), v20 = .int .i64 j ∧ v6 = .bool t ∧ j ≤ ks.length ∧ Hid (Below w.heap.size w W2)) (fun _ v20 _ => ks.length - (intOf v20).toNat)
      case atStart => exact ⟨0, _, rfl, rfl, by omega, HI⟩
      case round =>
        obtain ⟨j, t, rfl, rfl, hj, HJ⟩ := hrel
        by_cases hltj : j < ks.length
        · obtain ⟨ad, rfl, hc⟩ := HK.out.at_ (j : Int) (by omega) (by omega)
          rw [Int.toNat_natCast] at hc
          have kc1 := pw_cell_below HJ.out hc
          clear hc
          cases t with
          | true =>
            go_wp2
            go_roundw
            case rel => exact ⟨j + 1, _, by go_num, rfl, by omega, HJ⟩
            case measure => simp [intOf]; omega
          | false =>
            go_wp2
            go_roundw
            case rel => exact ⟨j + 1, _, by go_num, rfl, by omega, HJ⟩
            case measure => simp [intOf]; omega
        · have hjj : j = ks.length := by omega
          subst hjj
          cases t with
          | true =>
            go_wp2
            go_roundw
            case rel => exact ⟨i + 1, by go_num, by omega, HJ⟩
            case measure => simp [intOf]; omega
          | false =>
            go_wp2
            go_ret
            exact Yes.no HJ.out
    · have hii : i = 6 := by omega
      subst hii
      go_wp2
      go_ret
      exact Yes.yes HI.out trivial
/-- What a proper statement is. -/
def SOk (x : S58) : Prop := x.f0.size ≤ 100 ∧ x.f1.length ≤ 100 ∧ (x.f2.length ≤ 20 ∧ ∀ y ∈ x.f2, y.f3.length ≤ 100 ∧ y.f0.size ≤ 100 ∧ NE false y.f0)
theorem sstatements_any (w : World) (A : Option Addr) (c : Nat) (xs : List S58) (v : Int) (hC : Kd.C k58 w A xs.length xs) (hF : ∀ x ∈ xs, Ft x.f0.size ∧ ∀ y ∈ x.f2, Ft y.f0.size) :
    Calls Tryz.prog 19 #[.int .i64 v, .slice A xs.length c] w (Yes w (∀ x ∈ xs, SOk x)) := by
  have HC := Lib.hid hC
  have HF := Lib.hid hF
  have hmax : xs.length ≤ 9223372036854775807 := hC.2.1
  clear hC hF
  go_enter Tryz.func19, Tryz.ntmps19
  go_wp2
  go_loopw [9] (fun v9 W => ∃ i : Nat, v9 = .int .i64 i ∧ i ≤ xs.length ∧ Hid (Below w.heap.size w W ∧ ∀ x ∈ xs.take i, SOk x)) (fun v9 _ => xs.length - (intOf v9).toNat)
  case atStart => exact ⟨0, rfl, by omega, Lib.hid ⟨Below.refl _ _, fun x hx => by simp at hx⟩⟩
  case round =>
    obtain ⟨i, rfl, hi, HI⟩ := hrel
    by_cases hlt : i < xs.length
    · have hx : xs[i]? = some xs[i] := List.getElem?_eq_getElem hlt
      obtain ⟨ad, A1, c1, A2, c2, rfl, hx0, hx1, hx2, hl1, hi1, hl2, hi2⟩ := at_T58 HC.out (i : Int) (by omega) (by omega)
      have hrd : rd_T58 xs (i : Int) = xs[i] := by simp [rd_T58, List.getD_eq_getElem?_getD, hx]
      rw [hrd] at hx0 hx1 hx2 hl1 hi1 hl2 hi2
      rw [Int.toNat_natCast] at hx0 hx1 hx2
      have kx0 := pw_cell_below HI.out.1 hx0
      have kx1 := pw_cell_below HI.out.1 hx1
      have kx2 := pw_cell_below HI.out.1 hx2
      obtain ⟨hFx, hFy⟩ := HF.out _ (List.getElem_mem hlt)
      have Htk := Lib.hid (List.take_succ_eq_append_getElem hlt)
      generalize xs[i] = x at *
      clear hx hrd hx0 hx1 hx2 hl1 hi1
      obtain ⟨xt, xi, xv⟩ := x
      simp only at kx0 kx1 kx2 hl2 hi2 hFx hFy
      have HV := Lib.hid (Kd.C_below hi2 HI.out.1)
      have HFy := Lib.hid hFy
      have HL2 := Lib.hid hl2
      clear hi2 hFy hl2
      have HKb := Lib.hid (heap_alloc_new wr (.cells #[.string xt, .slice A1 xi.length c1, .slice A2 xv.length c2] 58))
      have HBa := Lib.hid (below_then HI.out.1 HI.out.1.size (below_alloc (Below.refl wr.heap.size wr) (.cells #[.string xt, .slice A1 xi.length c1, .slice A2 xv.length c2] 58)))
      go_wp2_with fail
      refine (ascii_any _ xt hFx).mono ?_
      rintro e w2 ⟨b, rfl, hb, hP⟩
      have HB2 := Lib.hid (below_then HBa.out HBa.out.size hb)
      have HK2 := Lib.hid (blk_below HKb.out hb)
      have k1 : w2.cell? ⟨wr.heap.size, 1, none⟩ = some (.slice A1 xi.length c1) := (cell_of_row _ _ 1 _ _ _ HK2.out).trans rfl
      have k0 : w2.cell? ⟨wr.heap.size, 0, none⟩ = some (.string xt) := (cell_of_row _ _ 0 _ _ _ HK2.out).trans rfl
      have k2 : w2.cell? ⟨wr.heap.size, 2, none⟩ = some (.slice A2 xv.length c2) := (cell_of_row _ _ 2 _ _ _ HK2.out).trans rfl
      have HV2 := Lib.hid (Kd.C_below (Kd.C_alloc HV.out (.cells #[.string xt, .slice A1 xi.length c1, .slice A2 xv.length c2] 58)) hb)
      clear hb
      cases b with
      | false =>
        clear hP
        go_wp2
        go_ret
        exact Yes.no HB2.out
      | true =>
        have HP := Lib.hid (hP rfl)
        clear hP
        by_cases h100 : xi.length ≤ 100
        · have HL1 : L100 xi.length := h100
          cases he : xt.toList.isEmpty with
          | true =>
            by_cases hz : xi.length = 0
            · skip
              have hz2 : ((xi.length : Int) == 0) = true := beq_iff_eq.2 (by omega)
              go_wp2
              go_ret
              exact Yes.no HB2.out
            · skip
              have hz2 : ((xi.length : Int) == 0) = false := beq_eq_false_iff_ne.2 (by omega)
              go_wp2_with fail
              refine (sparams_any _ A2 c2 xv v false HV2.out HL2.out HFy.out).mono ?_
              rintro e w3 ⟨b, rfl, hb, hP⟩
              have HB3 := Lib.hid (below_then HB2.out HB2.out.size hb)
              clear hb
              cases b with
              | false =>
                clear hP
                go_wp2
                go_ret
                exact Yes.no HB3.out
              | true =>
                have HP3 := Lib.hid (hP rfl)
                clear hP
                go_wp2
                go_roundw
                case rel =>
                  refine ⟨i + 1, by go_num, by omega, Lib.hid ⟨HB3.out, fun z hz => ?_⟩⟩
                  rw [Htk.out] at hz
                  rcases List.mem_append.1 hz with hz | hz
                  · exact HI.out.2 z hz
                  · obtain rfl := List.mem_singleton.1 hz
                    exact ⟨HP.out, HL1, HP3.out⟩
                case measure => simp [intOf]; omega
          | false =>
            by_cases hz : xi.length = 0
            · skip
              have hz2 : ((xi.length : Int) == 0) = true := beq_iff_eq.2 (by omega)
              go_wp2_with fail
              refine (sparams_any _ A2 c2 xv v false HV2.out HL2.out HFy.out).mono ?_
              rintro e w3 ⟨b, rfl, hb, hP⟩
              have HB3 := Lib.hid (below_then HB2.out HB2.out.size hb)
              clear hb
              cases b with
              | false =>
                clear hP
                go_wp2
                go_ret
                exact Yes.no HB3.out
              | true =>
                have HP3 := Lib.hid (hP rfl)
                clear hP
                go_wp2
                go_roundw
                case rel =>
                  refine ⟨i + 1, by go_num, by omega, Lib.hid ⟨HB3.out, fun z hz => ?_⟩⟩
                  rw [Htk.out] at hz
                  rcases List.mem_append.1 hz with hz | hz
                  · exact HI.out.2 z hz
                  · obtain rfl := List.mem_singleton.1 hz
                    exact ⟨HP.out, HL1, HP3.out⟩
                case measure => simp [intOf]; omega
            · skip
              have hz2 : ((xi.length : Int) == 0) = false := beq_eq_false_iff_ne.2 (by omega)
              go_wp2
              go_ret
              exact Yes.no HB2.out
        · go_wp2
          go_ret
          exact Yes.no HB2.out
    · have hii : i = xs.length := by omega
      subst hii
      rw [List.take_length] at HI
      go_wp2
      go_ret
      exact Yes.yes HI.out.1 HI.out.2
end Go.Proofs.YtammjbmfiakbnaaGreatDoor
