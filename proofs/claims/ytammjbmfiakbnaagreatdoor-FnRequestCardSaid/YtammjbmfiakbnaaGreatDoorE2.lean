/-
  The reference's checks: values that are bound.
-/
import Derived.Test.YtammjbmfiakbnaaGreatDoorD
namespace Go.Proofs.YtammjbmfiakbnaaGreatDoor
set_option maxHeartbeats 2000000
set_option maxRecDepth 100000
set_option linter.unusedSimpArgs false
set_option linter.unusedVariables false
open Go.RowKit Go.Proofs.YtammjbmfiakbnaaGreatDoorW.PrintWords Go.Proofs.YtammjbmfiakbnaaGreatDoorW.PrintLast Go.Proofs.YtammjbmfiakbnaaGreatDoorW.PrintMore
open Go.Proofs.YtammjbmfiakbnaaGreatDoor.PFnRequest
/-- Where names are not allowed, there is none. -/
def NE (nm : Bool) (s : ByteArray) : Prop := nm = false → s.toList.isEmpty = true
def L100 (n : Nat) : Prop := n ≤ 100
/-- The first k of n are listed. -/
def ls (n k : Nat) : Array Bool := (List.replicate k true ++ List.replicate (n - k) false).toArray
section
variable {P : Program} {ops : Array Oper} {Q : Exit → Act → World → Prop} {S : World → Prop} {ds : List Nat} {n k fuel : Nat} {oi : Oper} {v : Value} {a a' : Act} {w : World}
theorem d_f {t : Tmp} (h : wpAnyLast P .any ops Q S ds fuel (ls n (k + 1)) a' w) (hi : ops[k]? = some oi := by rfl) (hN : oi.dst = some t := by rfl) (hc : anyB .any ops (ls n k) (ls n (k + 1)) k = true := by kernel_rfl) (hQ : ∀ c a w, Q (.panic c) (a.put (some t) undef) w → Q (.panic c) a w := by exact fun _ _ _ h => h) (hw : Region.wanted oi (yielded ops a.tmps) = false := by rfl) (ha : a.put (some t) undef = a' := by first | (simp only [Act.put, List.setIfInBounds_toArray, List.set_cons_zero, List.set_cons_succ, i64_w, i32_w]; rfl) | rfl) : wpAnyLast P .any ops Q S ds (fuel + 1) (ls n k) a w :=
  pure_ (ls n (k + 1)) hi hN hc (hN ▸ hQ) (Or.inr ⟨hw, rfl⟩) ha h
theorem d_o {t : Tmp} (h : wpAnyLast P .any ops Q S ds fuel (ls n (k + 1)) a' w) (hi : ops[k]? = some oi := by rfl) (hN : oi.dst = some t := by rfl) (hc : anyB .any ops (ls n k) (ls n (k + 1)) k = true := by kernel_rfl) (hw : Region.wanted oi (yielded ops a.tmps) = true := by rfl) (hy : ∀ w', (execOp a.eval oi).run P w' = .ok (.value v) w' := by (intro w'; go_simp; with_reducible rfl)) (hQ : ∀ c a w, Q (.panic c) (a.put (some t) v) w → Q (.panic c) a w := by exact fun _ _ _ h => h) (ha : a.put (some t) v = a' := by (simp only [Act.put, List.setIfInBounds_toArray, List.set_cons_zero, List.set_cons_succ, i64_w, i32_w]; rfl)) : wpAnyLast P .any ops Q S ds (fuel + 1) (ls n k) a w :=
  pure_ (ls n (k + 1)) hi hN hc (hN ▸ hQ) (Or.inl ⟨hw, hy⟩) ha h
theorem d_t {t : Tmp} (h : wpAnyLast P .any ops Q S ds fuel (ls n (k + 1)) a' w) (hi : ops[k]? = some oi := by rfl) (hN : oi.dst = some t := by rfl) (hc : takeB .any ops ds (ls n k) (ls n (k + 1)) k = true := by kernel_rfl) (hw : Region.wanted oi (yielded ops a.tmps) = true := by rfl) (hy : ∀ w', S w' → (execOp a.eval oi).run P w' = .ok (.value v) w' := by (rintro w' ⟨s0, s1, s2⟩; go_simp; with_reducible rfl)) (hQ : ∀ c a w, Q (.panic c) (a.put (some t) v) w → Q (.panic c) a w := by exact fun _ _ _ h => h) (hS : S w := by assumption) (ha : a.put (some t) v = a' := by (simp only [Act.put, List.setIfInBounds_toArray, List.set_cons_zero, List.set_cons_succ, i64_w, i32_w]; rfl)) : wpAnyLast P .any ops Q S ds (fuel + 1) (ls n k) a w :=
  take_ (ls n (k + 1)) hi hN hc (hN ▸ hQ) (Or.inl ⟨hw, hy⟩) hS ha h
end
theorem sparams_any (w : World) (A : Option Addr) (c : Nat) (xs : List S87) (v : Int) (nm : Bool) (hC : Kd.C k87 w A xs.length xs) (hle : xs.length ≤ c) (hF : ∀ x ∈ xs, Ft x.f0.size) :
    Calls Tryz.prog 35 #[.int .i64 v, .slice A xs.length c, .bool nm] w (Yes w (xs.length ≤ 20 ∧ ∀ x ∈ xs, x.f3.length ≤ 100 ∧ x.f0.size ≤ 100 ∧ NE nm x.f0)) := by
  have HC := Lib.hid hC
  have HF := Lib.hid hF
  have hmax : xs.length ≤ 9223372036854775807 := hC.2.1
  clear hC hF
  go_enter Tryz.func35, Tryz.ntmps35
  go_wp2
  go_loopw [13] (fun v13 W => ∃ i : Nat, v13 = .int .i64 i ∧ i ≤ xs.length ∧ Hid (Below w.heap.size w W ∧ ∀ x ∈ xs.take i, x.f3.length ≤ 100 ∧ x.f0.size ≤ 100 ∧ NE nm x.f0)) (fun v13 _ => xs.length - (intOf v13).toNat)
  case atStart => exact ⟨0, rfl, by omega, Lib.hid ⟨Below.refl _ _, fun x hx => by simp at hx⟩⟩
  case round =>
    obtain ⟨i, rfl, hi, HI⟩ := hrel
    by_cases hlt : i < xs.length
    · have hx : xs[i]? = some xs[i] := List.getElem?_eq_getElem hlt
      obtain ⟨ad0, A03, c03, hA0, hy0, _⟩ := at_T87 HC.out 0 (by omega) (by omega)
      obtain ⟨ad, A3, c3, rfl, hx0, hx1, hx2, hx3, hl3, hi3⟩ := at_T87 HC.out (i : Int) (by omega) (by omega)
      obtain rfl := Option.some.inj hA0
      have hrd : rd_T87 xs (i : Int) = xs[i] := by simp [rd_T87, List.getD_eq_getElem?_getD, hx]
      rw [hrd] at hx0 hx1 hx2 hx3 hl3 hi3
      rw [Int.toNat_natCast] at hx0 hx1 hx2 hx3
      have kx0 := pw_cell_below HI.out.1 hx0
      have kx1 := pw_cell_below HI.out.1 hx1
      have kx2 := pw_cell_below HI.out.1 hx2
      have kx3 := pw_cell_below HI.out.1 hx3
      have ky0 := pw_cell_below HI.out.1 hy0
      have hFx := HF.out _ (List.getElem_mem hlt)
      have Htk := Lib.hid (List.take_succ_eq_append_getElem hlt)
      generalize (rd_T87 xs 0).f0 = y at ky0
      have hp0 : 0 < xs.length := by omega
      simp at ky0
      generalize xs[i] = x at *
      clear hx hrd hx0 hx1 hx2 hx3 hl3 hi3 hy0
      obtain ⟨xk, x1, x2, xl⟩ := x
      simp only at kx0 kx1 kx2 kx3 hFx
      have HKb := Lib.hid (heap_alloc_new wr (.cells #[.string xk, .bool x1, .bool x2, .slice A3 xl.length c3] 87))
      have HBa := Lib.hid (below_then HI.out.1 HI.out.1.size (below_alloc (Below.refl wr.heap.size wr) (.cells #[.string xk, .bool x1, .bool x2, .slice A3 xl.length c3] 87)))
      have HBd := Lib.hid (below_alloc (Below.refl wr.heap.size wr) (.cells #[.string xk, .bool x1, .bool x2, .slice A3 xl.length c3] 87)).drew
      go_upto_region 4 with (fail)
      cases x1 with
      | false =>
        cases x2 with
        | false =>
          by_cases hl : 100 < xl.length
          · skip
            have d100 : decide ((100 : Int) < (xl.length : Int)) = true := decide_eq_true (by omega)
            have e100 : decide (100 < xl.length) = true := decide_eq_true (by omega)
            refine start_ (n := 50) (S := fun w' => w'.cell? ⟨wr.heap.size, 0, none⟩ = some (.string xk) ∧ w'.cell? ⟨wr.heap.size, 1, none⟩ = some (.bool false) ∧ w'.cell? ⟨wr.heap.size, 2, none⟩ = some (.bool false) ∧ w'.cell? ⟨wr.heap.size, 3, none⟩ = some (.slice A3 xl.length c3) ∧ w'.cell? ad = some (.string y)) (ds := []) (ls 50 0) (by kernel_rfl) rfl rfl ⟨(cell_of_row _ _ 0 _ _ _ (blk_drew HKb.out)).trans rfl, (cell_of_row _ _ 1 _ _ _ (blk_drew HKb.out)).trans rfl, (cell_of_row _ _ 2 _ _ _ (blk_drew HKb.out)).trans rfl, (cell_of_row _ _ 3 _ _ _ (blk_drew HKb.out)).trans rfl, pw_cell_below HBd.out ky0⟩ (fun hHeld => ?_)
            iterate 50 (first | refine d_f ?_ | refine d_o ?_ | refine d_t ?_)
            refine done_ (by kernel_rfl) ?_
            simp only [Exit.then]
            refine (‹∀ (a : Act) (w : World), Code.wp Tryz.prog _ _ a w → _›) _ _ ?_
            go_wp2
            go_ret
            exact Yes.no HBa.out.drew
          · skip
            have d100 : decide ((100 : Int) < (xl.length : Int)) = false := decide_eq_false (by omega)
            have e100 : decide (100 < xl.length) = false := decide_eq_false (by omega)
            have HL3 : L100 xl.length := by unfold L100; omega
            refine start_ (n := 50) (S := fun w' => w'.cell? ⟨wr.heap.size, 0, none⟩ = some (.string xk) ∧ w'.cell? ⟨wr.heap.size, 1, none⟩ = some (.bool false) ∧ w'.cell? ⟨wr.heap.size, 2, none⟩ = some (.bool false) ∧ w'.cell? ⟨wr.heap.size, 3, none⟩ = some (.slice A3 xl.length c3) ∧ w'.cell? ad = some (.string y)) (ds := []) (ls 50 0) (by kernel_rfl) rfl rfl ⟨(cell_of_row _ _ 0 _ _ _ (blk_drew HKb.out)).trans rfl, (cell_of_row _ _ 1 _ _ _ (blk_drew HKb.out)).trans rfl, (cell_of_row _ _ 2 _ _ _ (blk_drew HKb.out)).trans rfl, (cell_of_row _ _ 3 _ _ _ (blk_drew HKb.out)).trans rfl, pw_cell_below HBd.out ky0⟩ (fun hHeld => ?_)
            iterate 33 (first | refine d_f ?_ | refine d_o ?_ | refine d_t ?_)
            refine one_ (i := 33) (N := some 51) (ls 50 34) rfl rfl (by kernel_rfl) (by decide) (fun K hK => ?_)
            refine goes_ Tryz.func15 (by kernel_rfl) rfl #[.string xk] (by rfl) rfl rfl (by simp only [List.map_toArray, List.map_cons, List.map_nil]; rfl) ?_
            with_reducible refine (ascii_any _ xk hFx).mono ?_
            rintro e w3 ⟨b, rfl, hb3, hP3⟩
            refine ⟨_, rfl, ?_⟩
            have HB3 := Lib.hid (below_then HBa.out.drew HBa.out.drew.size hb3)
            have HK3 := Lib.hid (blk_below (blk_drew HKb.out) hb3)
            refine hK.out _ _ ⟨(cell_of_row _ _ 0 _ _ _ HK3.out).trans rfl, (cell_of_row _ _ 1 _ _ _ HK3.out).trans rfl, (cell_of_row _ _ 2 _ _ _ HK3.out).trans rfl, (cell_of_row _ _ 3 _ _ _ HK3.out).trans rfl, pw_cell_below (below_then HBd.out HBd.out.size hb3) ky0⟩ (fun hHeld => ?_)
            clear hK K
            refine norm_ (a' := ?_) ?_ ?_
            rotate_left
            · show Act.put _ (some 51) _ = _
              simp only [Act.put, List.setIfInBounds_toArray, List.set_cons_zero, List.set_cons_succ, i64_w, i32_w]
              rfl
            cases b with
            | false =>
              clear hP3
              iterate 16 (first | refine d_f ?_ | refine d_o ?_ | refine d_t ?_)
              refine done_ (by kernel_rfl) ?_
              simp only [Exit.then]
              refine (‹∀ (a : Act) (w : World), Code.wp Tryz.prog _ _ a w → _›) _ _ ?_
              go_wp2
              go_ret
              exact Yes.no HB3.out
            | true =>
              have HP3 := Lib.hid (hP3 rfl)
              clear hP3
              cases nm with
              | false =>
                iterate 16 (first | refine d_f ?_ | refine d_o ?_ | refine d_t ?_)
                refine done_ (by kernel_rfl) ?_
                simp only [Exit.then]
                refine (‹∀ (a : Act) (w : World), Code.wp Tryz.prog _ _ a w → _›) _ _ ?_
                have k0_3 : w3.cell? ⟨wr.heap.size, 0, none⟩ = some (.string xk) := (cell_of_row _ _ 0 _ _ _ HK3.out).trans rfl
                go_wp2
                · go_ret
                  exact Yes.no HB3.out
                have hNE : NE false xk := by
                  intro hnm
                  first
                    | (have h2 := ‹(!xk.toList.isEmpty) = false›; simpa using h2)
                    | exact absurd hnm (by decide)
                have HN := Lib.hid hNE
                clear hNE
                go_loopw [72] (fun v72 W2 => ∃ j : Nat, v72 = .int .i64 j ∧ j ≤ i ∧ Hid (Below w3.heap.size w3 W2)) (fun v72 _ => i - (intOf v72).toNat)
                case atStart => exact ⟨0, rfl, by omega, Lib.hid (Below.refl _ _)⟩
                case round =>
                  obtain ⟨j, rfl, hj, HJ⟩ := hrel
                  have HBJ := Lib.hid (below_then HB3.out HB3.out.size HJ.out)
                  by_cases hltj : j < i
                  · obtain ⟨ad', Aj, cj, hadj, hj0, hj1, hj2, hj3, _, _⟩ := at_T87 HC.out (j : Int) (by omega) (by omega)
                    obtain rfl := Option.some.inj hadj
                    rw [Int.toNat_natCast] at hj0 hj1 hj2 hj3
                    have kj0 := pw_cell_below HBJ.out hj0
                    have kj1 := pw_cell_below HBJ.out hj1
                    have kj2 := pw_cell_below HBJ.out hj2
                    have kj3 := pw_cell_below HBJ.out hj3
                    generalize rd_T87 xs (j : Int) = z at *
                    clear hj0 hj1 hj2 hj3
                    have HJa := Lib.hid (below_then HJ.out HJ.out.size (below_alloc (Below.refl wr.heap.size wr) (.cells #[.string z.f0, .bool z.f1, .bool z.f2, .slice Aj z.f3.length cj] 87)))
                    have HBa2 := Lib.hid (below_then HB3.out HB3.out.size HJa.out)
                    have kk0 := (cell_of_row _ _ 0 _ _ _ (blk_below HK3.out HJa.out)).trans rfl
                    go_wp2
                    all_goals first
                      | (go_ret; exact Yes.no HBa2.out)
                      | (go_roundw
                         case rel => exact ⟨j + 1, by go_num, by omega, HJa⟩
                         case measure => simp [intOf]; omega)
                      | (refine ⟨⟨_, _, _, ⟨j + 1, rfl, by omega⟩, rfl, rfl, by go_num⟩, ?_⟩
                         simp [intOf]
                         omega)
                  · have hji : j = i := by omega
                    subst hji
                    go_wp2
                    go_roundw
                    case rel =>
                      refine ⟨j + 1, by go_num, by omega, Lib.hid ⟨HBJ.out, fun z hz => ?_⟩⟩
                      rw [Htk.out] at hz
                      rcases List.mem_append.1 hz with hz | hz
                      · exact HI.out.2 z hz
                      · obtain rfl := List.mem_singleton.1 hz
                        exact ⟨HL3, HP3.out, HN.out⟩
                    case measure => simp [intOf]; omega
              | true =>
                iterate 16 (first | refine d_f ?_ | refine d_o ?_ | refine d_t ?_)
                refine done_ (by kernel_rfl) ?_
                simp only [Exit.then]
                refine (‹∀ (a : Act) (w : World), Code.wp Tryz.prog _ _ a w → _›) _ _ ?_
                have k0_3 : w3.cell? ⟨wr.heap.size, 0, none⟩ = some (.string xk) := (cell_of_row _ _ 0 _ _ _ HK3.out).trans rfl
                go_wp2
                · go_ret
                  exact Yes.no HB3.out
                have hNE : NE true xk := by
                  intro hnm
                  first
                    | (have h2 := ‹(!xk.toList.isEmpty) = false›; simpa using h2)
                    | exact absurd hnm (by decide)
                have HN := Lib.hid hNE
                clear hNE
                go_loopw [72] (fun v72 W2 => ∃ j : Nat, v72 = .int .i64 j ∧ j ≤ i ∧ Hid (Below w3.heap.size w3 W2)) (fun v72 _ => i - (intOf v72).toNat)
                case atStart => exact ⟨0, rfl, by omega, Lib.hid (Below.refl _ _)⟩
                case round =>
                  obtain ⟨j, rfl, hj, HJ⟩ := hrel
                  have HBJ := Lib.hid (below_then HB3.out HB3.out.size HJ.out)
                  by_cases hltj : j < i
                  · obtain ⟨ad', Aj, cj, hadj, hj0, hj1, hj2, hj3, _, _⟩ := at_T87 HC.out (j : Int) (by omega) (by omega)
                    obtain rfl := Option.some.inj hadj
                    rw [Int.toNat_natCast] at hj0 hj1 hj2 hj3
                    have kj0 := pw_cell_below HBJ.out hj0
                    have kj1 := pw_cell_below HBJ.out hj1
                    have kj2 := pw_cell_below HBJ.out hj2
                    have kj3 := pw_cell_below HBJ.out hj3
                    generalize rd_T87 xs (j : Int) = z at *
                    clear hj0 hj1 hj2 hj3
                    have HJa := Lib.hid (below_then HJ.out HJ.out.size (below_alloc (Below.refl wr.heap.size wr) (.cells #[.string z.f0, .bool z.f1, .bool z.f2, .slice Aj z.f3.length cj] 87)))
                    have HBa2 := Lib.hid (below_then HB3.out HB3.out.size HJa.out)
                    have kk0 := (cell_of_row _ _ 0 _ _ _ (blk_below HK3.out HJa.out)).trans rfl
                    go_wp2
                    all_goals first
                      | (go_ret; exact Yes.no HBa2.out)
                      | (go_roundw
                         case rel => exact ⟨j + 1, by go_num, by omega, HJa⟩
                         case measure => simp [intOf]; omega)
                      | (refine ⟨⟨_, _, _, ⟨j + 1, rfl, by omega⟩, rfl, rfl, by go_num⟩, ?_⟩
                         simp [intOf]
                         omega)
                  · have hji : j = i := by omega
                    subst hji
                    go_wp2
                    go_roundw
                    case rel =>
                      refine ⟨j + 1, by go_num, by omega, Lib.hid ⟨HBJ.out, fun z hz => ?_⟩⟩
                      rw [Htk.out] at hz
                      rcases List.mem_append.1 hz with hz | hz
                      · exact HI.out.2 z hz
                      · obtain rfl := List.mem_singleton.1 hz
                        exact ⟨HL3, HP3.out, HN.out⟩
                    case measure => simp [intOf]; omega
        | true =>
          by_cases h0 : 0 < xl.length
          · skip
            have d0 : decide ((0 : Int) < (xl.length : Int)) = true := decide_eq_true (by omega)
            have e0 : decide (0 < xl.length) = true := decide_eq_true (by omega)
            refine start_ (n := 50) (S := fun w' => w'.cell? ⟨wr.heap.size, 0, none⟩ = some (.string xk) ∧ w'.cell? ⟨wr.heap.size, 1, none⟩ = some (.bool false) ∧ w'.cell? ⟨wr.heap.size, 2, none⟩ = some (.bool true) ∧ w'.cell? ⟨wr.heap.size, 3, none⟩ = some (.slice A3 xl.length c3) ∧ w'.cell? ad = some (.string y)) (ds := []) (ls 50 0) (by kernel_rfl) rfl rfl ⟨(cell_of_row _ _ 0 _ _ _ (blk_drew HKb.out)).trans rfl, (cell_of_row _ _ 1 _ _ _ (blk_drew HKb.out)).trans rfl, (cell_of_row _ _ 2 _ _ _ (blk_drew HKb.out)).trans rfl, (cell_of_row _ _ 3 _ _ _ (blk_drew HKb.out)).trans rfl, pw_cell_below HBd.out ky0⟩ (fun hHeld => ?_)
            iterate 50 (first | refine d_f ?_ | refine d_o ?_ | refine d_t ?_)
            refine done_ (by kernel_rfl) ?_
            simp only [Exit.then]
            refine (‹∀ (a : Act) (w : World), Code.wp Tryz.prog _ _ a w → _›) _ _ ?_
            go_wp2
            go_ret
            exact Yes.no HBa.out.drew
          · skip
            have d0 : decide ((0 : Int) < (xl.length : Int)) = false := decide_eq_false (by omega)
            have e0 : decide (0 < xl.length) = false := decide_eq_false (by omega)
            have d100 : decide ((100 : Int) < (xl.length : Int)) = false := decide_eq_false (by omega)
            have e100 : decide (100 < xl.length) = false := decide_eq_false (by omega)
            have HL3 : L100 xl.length := by unfold L100; omega
            refine start_ (n := 50) (S := fun w' => w'.cell? ⟨wr.heap.size, 0, none⟩ = some (.string xk) ∧ w'.cell? ⟨wr.heap.size, 1, none⟩ = some (.bool false) ∧ w'.cell? ⟨wr.heap.size, 2, none⟩ = some (.bool true) ∧ w'.cell? ⟨wr.heap.size, 3, none⟩ = some (.slice A3 xl.length c3) ∧ w'.cell? ad = some (.string y)) (ds := []) (ls 50 0) (by kernel_rfl) rfl rfl ⟨(cell_of_row _ _ 0 _ _ _ (blk_drew HKb.out)).trans rfl, (cell_of_row _ _ 1 _ _ _ (blk_drew HKb.out)).trans rfl, (cell_of_row _ _ 2 _ _ _ (blk_drew HKb.out)).trans rfl, (cell_of_row _ _ 3 _ _ _ (blk_drew HKb.out)).trans rfl, pw_cell_below HBd.out ky0⟩ (fun hHeld => ?_)
            iterate 33 (first | refine d_f ?_ | refine d_o ?_ | refine d_t ?_)
            refine one_ (i := 33) (N := some 51) (ls 50 34) rfl rfl (by kernel_rfl) (by decide) (fun K hK => ?_)
            refine goes_ Tryz.func15 (by kernel_rfl) rfl #[.string xk] (by rfl) rfl rfl (by simp only [List.map_toArray, List.map_cons, List.map_nil]; rfl) ?_
            with_reducible refine (ascii_any _ xk hFx).mono ?_
            rintro e w3 ⟨b, rfl, hb3, hP3⟩
            refine ⟨_, rfl, ?_⟩
            have HB3 := Lib.hid (below_then HBa.out.drew HBa.out.drew.size hb3)
            have HK3 := Lib.hid (blk_below (blk_drew HKb.out) hb3)
            refine hK.out _ _ ⟨(cell_of_row _ _ 0 _ _ _ HK3.out).trans rfl, (cell_of_row _ _ 1 _ _ _ HK3.out).trans rfl, (cell_of_row _ _ 2 _ _ _ HK3.out).trans rfl, (cell_of_row _ _ 3 _ _ _ HK3.out).trans rfl, pw_cell_below (below_then HBd.out HBd.out.size hb3) ky0⟩ (fun hHeld => ?_)
            clear hK K
            refine norm_ (a' := ?_) ?_ ?_
            rotate_left
            · show Act.put _ (some 51) _ = _
              simp only [Act.put, List.setIfInBounds_toArray, List.set_cons_zero, List.set_cons_succ, i64_w, i32_w]
              rfl
            cases b with
            | false =>
              clear hP3
              iterate 16 (first | refine d_f ?_ | refine d_o ?_ | refine d_t ?_)
              refine done_ (by kernel_rfl) ?_
              simp only [Exit.then]
              refine (‹∀ (a : Act) (w : World), Code.wp Tryz.prog _ _ a w → _›) _ _ ?_
              go_wp2
              go_ret
              exact Yes.no HB3.out
            | true =>
              have HP3 := Lib.hid (hP3 rfl)
              clear hP3
              cases nm with
              | false =>
                iterate 16 (first | refine d_f ?_ | refine d_o ?_ | refine d_t ?_)
                refine done_ (by kernel_rfl) ?_
                simp only [Exit.then]
                refine (‹∀ (a : Act) (w : World), Code.wp Tryz.prog _ _ a w → _›) _ _ ?_
                have k0_3 : w3.cell? ⟨wr.heap.size, 0, none⟩ = some (.string xk) := (cell_of_row _ _ 0 _ _ _ HK3.out).trans rfl
                go_wp2
                · go_ret
                  exact Yes.no HB3.out
                have hNE : NE false xk := by
                  intro hnm
                  first
                    | (have h2 := ‹(!xk.toList.isEmpty) = false›; simpa using h2)
                    | exact absurd hnm (by decide)
                have HN := Lib.hid hNE
                clear hNE
                go_loopw [72] (fun v72 W2 => ∃ j : Nat, v72 = .int .i64 j ∧ j ≤ i ∧ Hid (Below w3.heap.size w3 W2)) (fun v72 _ => i - (intOf v72).toNat)
                case atStart => exact ⟨0, rfl, by omega, Lib.hid (Below.refl _ _)⟩
                case round =>
                  obtain ⟨j, rfl, hj, HJ⟩ := hrel
                  have HBJ := Lib.hid (below_then HB3.out HB3.out.size HJ.out)
                  by_cases hltj : j < i
                  · obtain ⟨ad', Aj, cj, hadj, hj0, hj1, hj2, hj3, _, _⟩ := at_T87 HC.out (j : Int) (by omega) (by omega)
                    obtain rfl := Option.some.inj hadj
                    rw [Int.toNat_natCast] at hj0 hj1 hj2 hj3
                    have kj0 := pw_cell_below HBJ.out hj0
                    have kj1 := pw_cell_below HBJ.out hj1
                    have kj2 := pw_cell_below HBJ.out hj2
                    have kj3 := pw_cell_below HBJ.out hj3
                    generalize rd_T87 xs (j : Int) = z at *
                    clear hj0 hj1 hj2 hj3
                    have HJa := Lib.hid (below_then HJ.out HJ.out.size (below_alloc (Below.refl wr.heap.size wr) (.cells #[.string z.f0, .bool z.f1, .bool z.f2, .slice Aj z.f3.length cj] 87)))
                    have HBa2 := Lib.hid (below_then HB3.out HB3.out.size HJa.out)
                    have kk0 := (cell_of_row _ _ 0 _ _ _ (blk_below HK3.out HJa.out)).trans rfl
                    go_wp2
                    all_goals first
                      | (go_ret; exact Yes.no HBa2.out)
                      | (go_roundw
                         case rel => exact ⟨j + 1, by go_num, by omega, HJa⟩
                         case measure => simp [intOf]; omega)
                      | (refine ⟨⟨_, _, _, ⟨j + 1, rfl, by omega⟩, rfl, rfl, by go_num⟩, ?_⟩
                         simp [intOf]
                         omega)
                  · have hji : j = i := by omega
                    subst hji
                    go_wp2
                    go_roundw
                    case rel =>
                      refine ⟨j + 1, by go_num, by omega, Lib.hid ⟨HBJ.out, fun z hz => ?_⟩⟩
                      rw [Htk.out] at hz
                      rcases List.mem_append.1 hz with hz | hz
                      · exact HI.out.2 z hz
                      · obtain rfl := List.mem_singleton.1 hz
                        exact ⟨HL3, HP3.out, HN.out⟩
                    case measure => simp [intOf]; omega
              | true =>
                iterate 16 (first | refine d_f ?_ | refine d_o ?_ | refine d_t ?_)
                refine done_ (by kernel_rfl) ?_
                simp only [Exit.then]
                refine (‹∀ (a : Act) (w : World), Code.wp Tryz.prog _ _ a w → _›) _ _ ?_
                have k0_3 : w3.cell? ⟨wr.heap.size, 0, none⟩ = some (.string xk) := (cell_of_row _ _ 0 _ _ _ HK3.out).trans rfl
                go_wp2
                · go_ret
                  exact Yes.no HB3.out
                have hNE : NE true xk := by
                  intro hnm
                  first
                    | (have h2 := ‹(!xk.toList.isEmpty) = false›; simpa using h2)
                    | exact absurd hnm (by decide)
                have HN := Lib.hid hNE
                clear hNE
                go_loopw [72] (fun v72 W2 => ∃ j : Nat, v72 = .int .i64 j ∧ j ≤ i ∧ Hid (Below w3.heap.size w3 W2)) (fun v72 _ => i - (intOf v72).toNat)
                case atStart => exact ⟨0, rfl, by omega, Lib.hid (Below.refl _ _)⟩
                case round =>
                  obtain ⟨j, rfl, hj, HJ⟩ := hrel
                  have HBJ := Lib.hid (below_then HB3.out HB3.out.size HJ.out)
                  by_cases hltj : j < i
                  · obtain ⟨ad', Aj, cj, hadj, hj0, hj1, hj2, hj3, _, _⟩ := at_T87 HC.out (j : Int) (by omega) (by omega)
                    obtain rfl := Option.some.inj hadj
                    rw [Int.toNat_natCast] at hj0 hj1 hj2 hj3
                    have kj0 := pw_cell_below HBJ.out hj0
                    have kj1 := pw_cell_below HBJ.out hj1
                    have kj2 := pw_cell_below HBJ.out hj2
                    have kj3 := pw_cell_below HBJ.out hj3
                    generalize rd_T87 xs (j : Int) = z at *
                    clear hj0 hj1 hj2 hj3
                    have HJa := Lib.hid (below_then HJ.out HJ.out.size (below_alloc (Below.refl wr.heap.size wr) (.cells #[.string z.f0, .bool z.f1, .bool z.f2, .slice Aj z.f3.length cj] 87)))
                    have HBa2 := Lib.hid (below_then HB3.out HB3.out.size HJa.out)
                    have kk0 := (cell_of_row _ _ 0 _ _ _ (blk_below HK3.out HJa.out)).trans rfl
                    go_wp2
                    all_goals first
                      | (go_ret; exact Yes.no HBa2.out)
                      | (go_roundw
                         case rel => exact ⟨j + 1, by go_num, by omega, HJa⟩
                         case measure => simp [intOf]; omega)
                      | (refine ⟨⟨_, _, _, ⟨j + 1, rfl, by omega⟩, rfl, rfl, by go_num⟩, ?_⟩
                         simp [intOf]
                         omega)
                  · have hji : j = i := by omega
                    subst hji
                    go_wp2
                    go_roundw
                    case rel =>
                      refine ⟨j + 1, by go_num, by omega, Lib.hid ⟨HBJ.out, fun z hz => ?_⟩⟩
                      rw [Htk.out] at hz
                      rcases List.mem_append.1 hz with hz | hz
                      · exact HI.out.2 z hz
                      · obtain rfl := List.mem_singleton.1 hz
                        exact ⟨HL3, HP3.out, HN.out⟩
                    case measure => simp [intOf]; omega
      | true =>
        by_cases hv : v < 4
        · skip
          have dv : decide (v < 4) = true := decide_eq_true hv
          refine start_ (n := 50) (S := fun w' => w'.cell? ⟨wr.heap.size, 0, none⟩ = some (.string xk) ∧ w'.cell? ⟨wr.heap.size, 1, none⟩ = some (.bool true) ∧ w'.cell? ⟨wr.heap.size, 2, none⟩ = some (.bool x2) ∧ w'.cell? ⟨wr.heap.size, 3, none⟩ = some (.slice A3 xl.length c3) ∧ w'.cell? ad = some (.string y)) (ds := []) (ls 50 0) (by kernel_rfl) rfl rfl ⟨(cell_of_row _ _ 0 _ _ _ (blk_drew HKb.out)).trans rfl, (cell_of_row _ _ 1 _ _ _ (blk_drew HKb.out)).trans rfl, (cell_of_row _ _ 2 _ _ _ (blk_drew HKb.out)).trans rfl, (cell_of_row _ _ 3 _ _ _ (blk_drew HKb.out)).trans rfl, pw_cell_below HBd.out ky0⟩ (fun hHeld => ?_)
          iterate 50 (first | refine d_f ?_ | refine d_o ?_ | refine d_t ?_)
          refine done_ (by kernel_rfl) ?_
          simp only [Exit.then]
          refine (‹∀ (a : Act) (w : World), Code.wp Tryz.prog _ _ a w → _›) _ _ ?_
          go_wp2
          go_ret
          exact Yes.no HBa.out.drew
        · cases x2 with
          | true =>
            have dv : decide (v < 4) = false := decide_eq_false hv
            refine start_ (n := 50) (S := fun w' => w'.cell? ⟨wr.heap.size, 0, none⟩ = some (.string xk) ∧ w'.cell? ⟨wr.heap.size, 1, none⟩ = some (.bool true) ∧ w'.cell? ⟨wr.heap.size, 2, none⟩ = some (.bool true) ∧ w'.cell? ⟨wr.heap.size, 3, none⟩ = some (.slice A3 xl.length c3) ∧ w'.cell? ad = some (.string y)) (ds := []) (ls 50 0) (by kernel_rfl) rfl rfl ⟨(cell_of_row _ _ 0 _ _ _ (blk_drew HKb.out)).trans rfl, (cell_of_row _ _ 1 _ _ _ (blk_drew HKb.out)).trans rfl, (cell_of_row _ _ 2 _ _ _ (blk_drew HKb.out)).trans rfl, (cell_of_row _ _ 3 _ _ _ (blk_drew HKb.out)).trans rfl, pw_cell_below HBd.out ky0⟩ (fun hHeld => ?_)
            iterate 50 (first | refine d_f ?_ | refine d_o ?_ | refine d_t ?_)
            refine done_ (by kernel_rfl) ?_
            simp only [Exit.then]
            refine (‹∀ (a : Act) (w : World), Code.wp Tryz.prog _ _ a w → _›) _ _ ?_
            go_wp2
            go_ret
            exact Yes.no HBa.out.drew
          | false =>
            by_cases h0 : 0 < xl.length
            · skip
              have dv : decide (v < 4) = false := decide_eq_false hv
              have d0 : decide ((0 : Int) < (xl.length : Int)) = true := decide_eq_true (by omega)
              have e0 : decide (0 < xl.length) = true := decide_eq_true (by omega)
              refine start_ (n := 50) (S := fun w' => w'.cell? ⟨wr.heap.size, 0, none⟩ = some (.string xk) ∧ w'.cell? ⟨wr.heap.size, 1, none⟩ = some (.bool true) ∧ w'.cell? ⟨wr.heap.size, 2, none⟩ = some (.bool false) ∧ w'.cell? ⟨wr.heap.size, 3, none⟩ = some (.slice A3 xl.length c3) ∧ w'.cell? ad = some (.string y)) (ds := []) (ls 50 0) (by kernel_rfl) rfl rfl ⟨(cell_of_row _ _ 0 _ _ _ (blk_drew HKb.out)).trans rfl, (cell_of_row _ _ 1 _ _ _ (blk_drew HKb.out)).trans rfl, (cell_of_row _ _ 2 _ _ _ (blk_drew HKb.out)).trans rfl, (cell_of_row _ _ 3 _ _ _ (blk_drew HKb.out)).trans rfl, pw_cell_below HBd.out ky0⟩ (fun hHeld => ?_)
              iterate 50 (first | refine d_f ?_ | refine d_o ?_ | refine d_t ?_)
              refine done_ (by kernel_rfl) ?_
              simp only [Exit.then]
              refine (‹∀ (a : Act) (w : World), Code.wp Tryz.prog _ _ a w → _›) _ _ ?_
              go_wp2
              go_ret
              exact Yes.no HBa.out.drew
            · skip
              have dv : decide (v < 4) = false := decide_eq_false hv
              have d0 : decide ((0 : Int) < (xl.length : Int)) = false := decide_eq_false (by omega)
              have e0 : decide (0 < xl.length) = false := decide_eq_false (by omega)
              have d100 : decide ((100 : Int) < (xl.length : Int)) = false := decide_eq_false (by omega)
              have e100 : decide (100 < xl.length) = false := decide_eq_false (by omega)
              have HL3 : L100 xl.length := by unfold L100; omega
              refine start_ (n := 50) (S := fun w' => w'.cell? ⟨wr.heap.size, 0, none⟩ = some (.string xk) ∧ w'.cell? ⟨wr.heap.size, 1, none⟩ = some (.bool true) ∧ w'.cell? ⟨wr.heap.size, 2, none⟩ = some (.bool false) ∧ w'.cell? ⟨wr.heap.size, 3, none⟩ = some (.slice A3 xl.length c3) ∧ w'.cell? ad = some (.string y)) (ds := []) (ls 50 0) (by kernel_rfl) rfl rfl ⟨(cell_of_row _ _ 0 _ _ _ (blk_drew HKb.out)).trans rfl, (cell_of_row _ _ 1 _ _ _ (blk_drew HKb.out)).trans rfl, (cell_of_row _ _ 2 _ _ _ (blk_drew HKb.out)).trans rfl, (cell_of_row _ _ 3 _ _ _ (blk_drew HKb.out)).trans rfl, pw_cell_below HBd.out ky0⟩ (fun hHeld => ?_)
              iterate 33 (first | refine d_f ?_ | refine d_o ?_ | refine d_t ?_)
              refine one_ (i := 33) (N := some 51) (ls 50 34) rfl rfl (by kernel_rfl) (by decide) (fun K hK => ?_)
              refine goes_ Tryz.func15 (by kernel_rfl) rfl #[.string xk] (by rfl) rfl rfl (by simp only [List.map_toArray, List.map_cons, List.map_nil]; rfl) ?_
              with_reducible refine (ascii_any _ xk hFx).mono ?_
              rintro e w3 ⟨b, rfl, hb3, hP3⟩
              refine ⟨_, rfl, ?_⟩
              have HB3 := Lib.hid (below_then HBa.out.drew HBa.out.drew.size hb3)
              have HK3 := Lib.hid (blk_below (blk_drew HKb.out) hb3)
              refine hK.out _ _ ⟨(cell_of_row _ _ 0 _ _ _ HK3.out).trans rfl, (cell_of_row _ _ 1 _ _ _ HK3.out).trans rfl, (cell_of_row _ _ 2 _ _ _ HK3.out).trans rfl, (cell_of_row _ _ 3 _ _ _ HK3.out).trans rfl, pw_cell_below (below_then HBd.out HBd.out.size hb3) ky0⟩ (fun hHeld => ?_)
              clear hK K
              refine norm_ (a' := ?_) ?_ ?_
              rotate_left
              · show Act.put _ (some 51) _ = _
                simp only [Act.put, List.setIfInBounds_toArray, List.set_cons_zero, List.set_cons_succ, i64_w, i32_w]
                rfl
              cases b with
              | false =>
                clear hP3
                iterate 16 (first | refine d_f ?_ | refine d_o ?_ | refine d_t ?_)
                refine done_ (by kernel_rfl) ?_
                simp only [Exit.then]
                refine (‹∀ (a : Act) (w : World), Code.wp Tryz.prog _ _ a w → _›) _ _ ?_
                go_wp2
                go_ret
                exact Yes.no HB3.out
              | true =>
                have HP3 := Lib.hid (hP3 rfl)
                clear hP3
                cases nm with
                | false =>
                  iterate 16 (first | refine d_f ?_ | refine d_o ?_ | refine d_t ?_)
                  refine done_ (by kernel_rfl) ?_
                  simp only [Exit.then]
                  refine (‹∀ (a : Act) (w : World), Code.wp Tryz.prog _ _ a w → _›) _ _ ?_
                  have k0_3 : w3.cell? ⟨wr.heap.size, 0, none⟩ = some (.string xk) := (cell_of_row _ _ 0 _ _ _ HK3.out).trans rfl
                  go_wp2
                  · go_ret
                    exact Yes.no HB3.out
                  have hNE : NE false xk := by
                    intro hnm
                    first
                      | (have h2 := ‹(!xk.toList.isEmpty) = false›; simpa using h2)
                      | exact absurd hnm (by decide)
                  have HN := Lib.hid hNE
                  clear hNE
                  go_loopw [72] (fun v72 W2 => ∃ j : Nat, v72 = .int .i64 j ∧ j ≤ i ∧ Hid (Below w3.heap.size w3 W2)) (fun v72 _ => i - (intOf v72).toNat)
                  case atStart => exact ⟨0, rfl, by omega, Lib.hid (Below.refl _ _)⟩
                  case round =>
                    obtain ⟨j, rfl, hj, HJ⟩ := hrel
                    have HBJ := Lib.hid (below_then HB3.out HB3.out.size HJ.out)
                    by_cases hltj : j < i
                    · obtain ⟨ad', Aj, cj, hadj, hj0, hj1, hj2, hj3, _, _⟩ := at_T87 HC.out (j : Int) (by omega) (by omega)
                      obtain rfl := Option.some.inj hadj
                      rw [Int.toNat_natCast] at hj0 hj1 hj2 hj3
                      have kj0 := pw_cell_below HBJ.out hj0
                      have kj1 := pw_cell_below HBJ.out hj1
                      have kj2 := pw_cell_below HBJ.out hj2
                      have kj3 := pw_cell_below HBJ.out hj3
                      generalize rd_T87 xs (j : Int) = z at *
                      clear hj0 hj1 hj2 hj3
                      have HJa := Lib.hid (below_then HJ.out HJ.out.size (below_alloc (Below.refl wr.heap.size wr) (.cells #[.string z.f0, .bool z.f1, .bool z.f2, .slice Aj z.f3.length cj] 87)))
                      have HBa2 := Lib.hid (below_then HB3.out HB3.out.size HJa.out)
                      have kk0 := (cell_of_row _ _ 0 _ _ _ (blk_below HK3.out HJa.out)).trans rfl
                      go_wp2
                      all_goals first
                        | (go_ret; exact Yes.no HBa2.out)
                        | (go_roundw
                           case rel => exact ⟨j + 1, by go_num, by omega, HJa⟩
                           case measure => simp [intOf]; omega)
                        | (refine ⟨⟨_, _, _, ⟨j + 1, rfl, by omega⟩, rfl, rfl, by go_num⟩, ?_⟩
                           simp [intOf]
                           omega)
                    · have hji : j = i := by omega
                      subst hji
                      go_wp2
                      go_roundw
                      case rel =>
                        refine ⟨j + 1, by go_num, by omega, Lib.hid ⟨HBJ.out, fun z hz => ?_⟩⟩
                        rw [Htk.out] at hz
                        rcases List.mem_append.1 hz with hz | hz
                        · exact HI.out.2 z hz
                        · obtain rfl := List.mem_singleton.1 hz
                          exact ⟨HL3, HP3.out, HN.out⟩
                      case measure => simp [intOf]; omega
                | true =>
                  iterate 16 (first | refine d_f ?_ | refine d_o ?_ | refine d_t ?_)
                  refine done_ (by kernel_rfl) ?_
                  simp only [Exit.then]
                  refine (‹∀ (a : Act) (w : World), Code.wp Tryz.prog _ _ a w → _›) _ _ ?_
                  have k0_3 : w3.cell? ⟨wr.heap.size, 0, none⟩ = some (.string xk) := (cell_of_row _ _ 0 _ _ _ HK3.out).trans rfl
                  go_wp2
                  · go_ret
                    exact Yes.no HB3.out
                  have hNE : NE true xk := by
                    intro hnm
                    first
                      | (have h2 := ‹(!xk.toList.isEmpty) = false›; simpa using h2)
                      | exact absurd hnm (by decide)
                  have HN := Lib.hid hNE
                  clear hNE
                  go_loopw [72] (fun v72 W2 => ∃ j : Nat, v72 = .int .i64 j ∧ j ≤ i ∧ Hid (Below w3.heap.size w3 W2)) (fun v72 _ => i - (intOf v72).toNat)
                  case atStart => exact ⟨0, rfl, by omega, Lib.hid (Below.refl _ _)⟩
                  case round =>
                    obtain ⟨j, rfl, hj, HJ⟩ := hrel
                    have HBJ := Lib.hid (below_then HB3.out HB3.out.size HJ.out)
                    by_cases hltj : j < i
                    · obtain ⟨ad', Aj, cj, hadj, hj0, hj1, hj2, hj3, _, _⟩ := at_T87 HC.out (j : Int) (by omega) (by omega)
                      obtain rfl := Option.some.inj hadj
                      rw [Int.toNat_natCast] at hj0 hj1 hj2 hj3
                      have kj0 := pw_cell_below HBJ.out hj0
                      have kj1 := pw_cell_below HBJ.out hj1
                      have kj2 := pw_cell_below HBJ.out hj2
                      have kj3 := pw_cell_below HBJ.out hj3
                      generalize rd_T87 xs (j : Int) = z at *
                      clear hj0 hj1 hj2 hj3
                      have HJa := Lib.hid (below_then HJ.out HJ.out.size (below_alloc (Below.refl wr.heap.size wr) (.cells #[.string z.f0, .bool z.f1, .bool z.f2, .slice Aj z.f3.length cj] 87)))
                      have HBa2 := Lib.hid (below_then HB3.out HB3.out.size HJa.out)
                      have kk0 := (cell_of_row _ _ 0 _ _ _ (blk_below HK3.out HJa.out)).trans rfl
                      go_wp2
                      all_goals first
                        | (go_ret; exact Yes.no HBa2.out)
                        | (go_roundw
                           case rel => exact ⟨j + 1, by go_num, by omega, HJa⟩
                           case measure => simp [intOf]; omega)
                        | (refine ⟨⟨_, _, _, ⟨j + 1, rfl, by omega⟩, rfl, rfl, by go_num⟩, ?_⟩
                           simp [intOf]
                           omega)
                    · have hji : j = i := by omega
                      subst hji
                      go_wp2
                      go_roundw
                      case rel =>
                        refine ⟨j + 1, by go_num, by omega, Lib.hid ⟨HBJ.out, fun z hz => ?_⟩⟩
                        rw [Htk.out] at hz
                        rcases List.mem_append.1 hz with hz | hz
                        · exact HI.out.2 z hz
                        · obtain rfl := List.mem_singleton.1 hz
                          exact ⟨HL3, HP3.out, HN.out⟩
                      case measure => simp [intOf]; omega
    · have hii : i = xs.length := by omega
      subst hii
      rw [List.take_length] at HI
      go_wp2
      go_ret
      by_cases h : xs.length ≤ 20
      · exact ⟨_, rfl, HI.out.1, fun _ => ⟨h, HI.out.2⟩⟩
      · exact ⟨_, rfl, HI.out.1, fun h2 => by simp at h2; omega⟩
end Go.Proofs.YtammjbmfiakbnaaGreatDoor
