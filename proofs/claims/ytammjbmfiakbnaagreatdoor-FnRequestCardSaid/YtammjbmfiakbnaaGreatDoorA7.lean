/-
  The reference's frame of a request: starting up, registering. The reference's frame of a request: a batch. The reference's frame of a request, whole.
-/
import Derived.Test.YtammjbmfiakbnaaGreatDoorA5
namespace Go.Proofs.YtammjbmfiakbnaaGreatDoor
set_option maxHeartbeats 2000000
set_option maxRecDepth 100000
set_option linter.unusedSimpArgs false
set_option linter.unusedVariables false
open Go.RowKit Go.Proofs.YtammjbmfiakbnaaGreatDoorW.PrintWords Go.Proofs.YtammjbmfiakbnaaGreatDoorW.PrintLast Go.Proofs.YtammjbmfiakbnaaGreatDoorW.PrintMore
open Go.Proofs.YtammjbmfiakbnaaGreatDoor.PFnRequest
theorem b9_register {Q : Exit → Act → World → Prop} {wB W : World} {p s : Int} {K G : Nat} {r : IR} {Ao A As : Option Addr} {co c cs : Nat} {a : Act} (hI : I9 p s K G a) (hW : Wr wB W G []) (hK : wB.heap[K]? = some (.cells (r.sc Ao co A c As cs) 39 (0, 0))) (hIn : r.SIn wB Ao A As) (hop : r.op = 11) (hN : r.ev.length ≤ 10) (hok : ∀ x ∈ r.ev, x.size ≤ 100)
    (h : ∀ a' w', I9 p s K G a' → Wr wB w' G (be 2 r.ev.length ++ r.ev.flatMap sbytes) → Q .normal a' w') : Code.wp Tryz.prog (c9 2) Q a W := by
  have HK : Hid (∀ i v, (r.sc Ao co A c As cs)[i]? = some v → ∀ {W bs}, Wr wB W G bs → W.cell? ⟨K, i, none⟩ = some v) := Lib.hid (fun i v hv _ _ hW => pw_cell_below hW.1 ((cell_of_row _ _ i _ _ _ hK).trans hv))
  have HW := Lib.hid hW
  have HH := Lib.hid h
  have HI := Lib.hid hIn
  have k0 : W.cell? ⟨K, 0, none⟩ = some (.int .i64 11) := HK.out 0 _ (by show some (Value.int .i64 r.op) = _; rw [hop]) HW.out
  have k11 : W.cell? ⟨K, 11, none⟩ = some (.slice r.Ae r.ev.length r.ce) := HK.out 11 _ rfl HW.out
  clear hW h hIn hop hK
  obtain ⟨g, rfl⟩ := hI.open_
  clear hI
  conv => arg 2; whnf
  have HE := Lib.hid (Kd.reads_of_C (d := ByteArray.empty) HI.out.2.2.2.1)
  have Hok := Lib.hid hok
  clear hok
  go_wp2_with fail
  refine (put_any wB G [] _ _ 2 _ rfl (by omega) (by simp) HW.out).mono ?_
  rintro e w1 ⟨rfl, hW1, _⟩
  have HW1 := Lib.hid hW1
  clear hW1 k0 k11
  have k11 : w1.cell? ⟨K, 11, none⟩ = some (.slice r.Ae r.ev.length r.ce) := HK.out 11 _ rfl HW1.out
  go_wp2
  generalize r.Ae = Ae at k11 HE
  clear k11
  rw [List.nil_append] at HW1
  go_loopw [82] (fun v82 W => ∃ i : Nat, v82 = .int .i64 i ∧ i ≤ r.ev.length ∧ Hid (Wr wB W G (be 2 r.ev.length ++ (r.ev.take i).flatMap sbytes))) (fun v82 _ => r.ev.length - (intOf v82).toNat)
  case atStart => exact ⟨0, rfl, by omega, by simpa using HW1⟩
  case round =>
    obtain ⟨i, rfl, hi, HW2⟩ := hrel
    clear HW1
    by_cases hlt : i < r.ev.length
    · have hx : r.ev[i]? = some r.ev[i] := List.getElem?_eq_getElem hlt
      obtain ⟨ad, rfl, hc⟩ := HE.out.at_ (i : Int) (by omega) (by omega)
      have hrd : rdOf ByteArray.empty r.ev (i : Int) = r.ev[i] := by simp [rdOf, List.getD_eq_getElem?_getD, hx]
      rw [hrd, Int.toNat_natCast] at hc
      have hokx := Hok.out _ (List.getElem_mem hlt)
      have Hsn := Lib.hid (flat_snoc sbytes r.ev i _ hx)
      have hcl : (be 2 r.ev.length ++ (r.ev.take i).flatMap sbytes).length ≤ 2000 := by
        have h1 := flat_le sbytes 102 (r.ev.take i) (fun y hy => sbytes_le y (Hok.out y (List.mem_of_mem_take hy)))
        have h2 : (r.ev.take i).length ≤ 10 := by rw [List.length_take]; omega
        simp only [List.length_append, be_length]; omega
      have kc := pw_cell_below HW2.out.1 hc
      clear hx hrd hc
      generalize r.ev[i] = x at *
      generalize hcs : be 2 r.ev.length ++ (r.ev.take i).flatMap sbytes = bs at *
      have Hcs := Lib.hid hcs
      clear hcs
      go_wp2_with fail
      refine (text_any wB G bs x _ (by omega) HW2.out).mono ?_
      rintro e w3 ⟨rfl, hW3, _⟩
      have HW3 := Lib.hid hW3
      clear hW3
      go_wp2_with fail
      go_roundw
      case rel =>
        refine ⟨i + 1, by go_num, by omega, Lib.hid ?_⟩
        rw [Hsn.out, ← List.append_assoc, Hcs.out]
        exact HW3.out
      case measure => simp [intOf]; omega
    · have hii : i = r.ev.length := by omega
      subst hii
      rw [List.take_length] at HW2
      go_wp2
      exact HH.out _ _ ⟨rfl, rfl, rfl, rfl, rfl, rfl⟩ HW2.out
theorem b9_startup {Q : Exit → Act → World → Prop} {wB W : World} {p s : Int} {K G : Nat} {r : IR} {Ao A As : Option Addr} {co c cs : Nat} {a : Act} (hI : I9 p s K G a) (hW : Wr wB W G []) (hK : wB.heap[K]? = some (.cells (r.sc Ao co A c As cs) 39 (0, 0))) (hIn : r.SIn wB Ao A As) (hop : r.op = 1) (hN : r.opts.length ≤ 10) (hok : ∀ x ∈ r.opts, x.f0.size ≤ 100 ∧ x.f1.size ≤ 100)
    (h : ∀ a' w', I9 p s K G a' → Wr wB w' G (be 2 (r.opts.map kvOf).length ++ (r.opts.map kvOf).flatMap kvbytes) → Q .normal a' w') : Code.wp Tryz.prog (c9 2) Q a W := by
  have HK : Hid (∀ i v, (r.sc Ao co A c As cs)[i]? = some v → ∀ {W bs}, Wr wB W G bs → W.cell? ⟨K, i, none⟩ = some v) := Lib.hid (fun i v hv _ _ hW => pw_cell_below hW.1 ((cell_of_row _ _ i _ _ _ hK).trans hv))
  have HW := Lib.hid hW
  have HH := Lib.hid h
  have HI := Lib.hid hIn
  have k0 : W.cell? ⟨K, 0, none⟩ = some (.int .i64 1) := HK.out 0 _ (by show some (Value.int .i64 r.op) = _; rw [hop]) HW.out
  have k1 : W.cell? ⟨K, 1, none⟩ = some (.slice Ao r.opts.length co) := HK.out 1 _ rfl HW.out
  clear hW h hIn hop hK
  obtain ⟨g, rfl⟩ := hI.open_
  clear hI
  conv => arg 2; whnf
  have HE := Lib.hid HI.out.1
  have Hok := Lib.hid hok
  clear hok
  rw [List.length_map] at HH
  go_wp2_with fail
  refine (put_any wB G [] _ _ 2 _ rfl (by omega) (by simp) HW.out).mono ?_
  rintro e w1 ⟨rfl, hW1, _⟩
  have HW1 := Lib.hid hW1
  clear hW1 k0 k1
  have k1 : w1.cell? ⟨K, 1, none⟩ = some (.slice Ao r.opts.length co) := HK.out 1 _ rfl HW1.out
  go_wp2
  clear k1
  rw [List.nil_append] at HW1
  go_loopw [33] (fun v33 W => ∃ i : Nat, v33 = .int .i64 i ∧ i ≤ r.opts.length ∧ Hid (Wr wB W G (be 2 r.opts.length ++ ((r.opts.take i).map kvOf).flatMap kvbytes))) (fun v33 _ => r.opts.length - (intOf v33).toNat)
  case atStart => exact ⟨0, rfl, by omega, by simpa using HW1⟩
  case round =>
    obtain ⟨i, rfl, hi, HW2⟩ := hrel
    clear HW1
    by_cases hlt : i < r.opts.length
    · have hx : r.opts[i]? = some r.opts[i] := List.getElem?_eq_getElem hlt
      obtain ⟨ad, rfl, hx0, hx1⟩ := at_T54 HE.out (i : Int) (by omega) (by omega)
      have hrd : rd_T54 (r.opts.map c54) (i : Int) = c54 r.opts[i] := by simp [rd_T54, List.getD_eq_getElem?_getD, List.getElem?_map, hx]
      rw [hrd] at hx0 hx1
      rw [Int.toNat_natCast] at hx0 hx1
      have hokx := Hok.out _ (List.getElem_mem hlt)
      have hsn : ((r.opts.take (i + 1)).map kvOf).flatMap kvbytes = ((r.opts.take i).map kvOf).flatMap kvbytes ++ kvbytes (kvOf r.opts[i]) := by
        rw [List.take_succ_eq_append_getElem hlt, List.map_append, List.flatMap_append]; simp
      have Hsn := Lib.hid hsn
      have hcl : (be 2 r.opts.length ++ ((r.opts.take i).map kvOf).flatMap kvbytes).length ≤ 4000 := by
        have h1 := flat_le kvbytes 204 ((r.opts.take i).map kvOf) (fun y hy => by
          obtain ⟨x, hx, rfl⟩ := List.mem_map.1 hy
          exact kvbytes_le _ (Hok.out x (List.mem_of_mem_take hx)))
        have h2 : ((r.opts.take i).map kvOf).length ≤ 10 := by rw [List.length_map, List.length_take]; omega
        simp only [List.length_append, be_length]; omega
      have kx0 := pw_cell_below HW2.out.1 hx0
      have kx1 := pw_cell_below HW2.out.1 hx1
      clear hx hrd hx0 hx1 hsn
      generalize r.opts[i] = x at *
      generalize hcs : be 2 r.opts.length ++ ((r.opts.take i).map kvOf).flatMap kvbytes = bs at *
      have Hcs := Lib.hid hcs
      clear hcs
      obtain ⟨xk, xv⟩ := x
      simp only [c54] at kx0 kx1
      simp only at hokx
      have HWa := Lib.hid (HW2.out.alloc (.cells #[.string xk, .string xv] 54))
      have HKb := Lib.hid (heap_alloc_new wr (.cells #[.string xk, .string xv] 54))
      have hcl2 : (bs ++ (be 2 xk.size ++ bytesOf xk)).length ≤ 5000 := by simp only [List.length_append, be_length, bytesOf_length]; omega
      go_wp2_with fail
      refine (text_any wB G bs xk _ (by omega) HWa.out).mono ?_
      rintro e w3 ⟨rfl, hW3, hK3⟩
      have hKb := hK3 _ _ 54 (by decide) (by decide) HKb.out
      have m1 := (cell_of_row _ _ 1 _ _ _ hKb).trans rfl
      have HW3 := Lib.hid hW3
      clear hW3 hK3 hKb
      go_wp2_with fail
      clear m1
      refine (text_any wB G _ xv _ (by omega) HW3.out).mono ?_
      rintro e w4 ⟨rfl, hW4, _⟩
      have HW4 := Lib.hid hW4
      clear hW4
      go_wp2_with fail
      go_roundw
      case rel =>
        refine ⟨i + 1, by go_num, by omega, Lib.hid ?_⟩
        rw [Hsn.out, ← List.append_assoc, Hcs.out]
        simpa [kvOf, kvbytes, sbytes, List.append_assoc] using HW4.out
      case measure => simp [intOf]; omega
    · have hii : i = r.opts.length := by omega
      subst hii
      rw [List.take_length] at HW2
      go_wp2
      exact HH.out _ _ ⟨rfl, rfl, rfl, rfl, rfl, rfl⟩ HW2.out
theorem bb_eq (typ : Int) (xs : List SV) (q : IQ) (F : Int) (h0 : 0 ≤ typ) (h2 : typ ≤ 2) (hts : q.ts.length ≤ 1) (hF : F = bflags q.qp) :
    be 1 typ ++ be 2 xs.length ++ xs.flatMap stbytes ++ be 2 q.cons ++ be 1 F ++ opt_ (0 < q.serial) (be 2 q.serial) ++ q.ts.flatMap (be 8) = bbytes typ xs q.qp := by
  have e1 : be 1 typ = [typ] := by rw [be_1, show typ % 256 = typ by omega]
  have e2 : be 1 F = [bflags q.qp] := by
    have c1 := bit_01 (decide (0 < q.qp.serial)) 16
    have c2 := bit_01 (decide (q.qp.hasT = true)) 32
    rw [be_1, hF, show bflags q.qp % 256 = bflags q.qp by unfold bflags; omega]
  rw [e1, e2, ts_one q.ts hts]
  rfl
theorem st_le (x : S56) (h : x.f1.length ≤ 100 ∧ x.f0.size ≤ 100 ∧ x.f2.length ≤ 20 ∧ ∀ y ∈ x.f2, y.f3.length ≤ 100 ∧ y.f0.size ≤ 100) : (stbytes (sv x)).length ≤ 6120 := by
  obtain ⟨h1, h2, h3, h4⟩ := h
  have a1 : (shead (sv x)).length ≤ 110 := by
    unfold shead sv
    split <;> simp only [List.length_append, List.length_cons, List.length_nil, be_length, bytesOf_length] <;> omega
  have a2 := flat_le (vbytes false) 300 (x.f2.map qv) (fun y hy => by
    obtain ⟨z, hz, rfl⟩ := List.mem_map.1 hy
    obtain ⟨g1, g2⟩ := h4 z hz
    exact vbytes_le false _ ⟨g2, fun l hl => by
      simp only [qv] at hl
      split at hl
      · cases hl
      · cases hl; exact g1⟩)
  rw [List.length_map] at a2
  unfold stbytes svals
  simp only [List.length_append, be_length]
  show (shead (sv x)).length + (2 + ((x.f2.map qv).flatMap (vbytes false)).length) ≤ 6120
  omega
theorem b9_batch {Q : Exit → Act → World → Prop} {wB W : World} {p s : Int} {K G : Nat} {r : IR} {Ao A As : Option Addr} {co c cs : Nat} {a : Act} (hI : I9 p s K G a) (hW : Wr wB W G []) (hK : wB.heap[K]? = some (.cells (r.sc Ao co A c As cs) 39 (0, 0))) (hIn : r.SIn wB Ao A As) (hop : r.op = 13) (hb0 : 0 ≤ r.batch) (hb2 : r.batch ≤ 2) (hN : r.sts.length ≤ 10) (hd : ∀ x ∈ r.sts, x.f1.length ≤ 100 ∧ x.f0.size ≤ 100 ∧ x.f2.length ≤ 20 ∧ ∀ y ∈ x.f2, y.f3.length ≤ 100 ∧ y.f0.size ≤ 100) (hts : r.q.ts.length ≤ 1)
    (h : ∀ a' w', I9 p s K G a' → Wr wB w' G (bbytes r.batch (r.sts.map sv) r.q.qp) → Q .normal a' w') : Code.wp Tryz.prog (c9 2) Q a W := by
  have HK : Hid (∀ i v, (r.sc Ao co A c As cs)[i]? = some v → ∀ {W bs}, Wr wB W G bs → W.cell? ⟨K, i, none⟩ = some v) := Lib.hid (fun i v hv _ _ hW => pw_cell_below hW.1 ((cell_of_row _ _ i _ _ _ hK).trans hv))
  have HW := Lib.hid hW
  have HH := Lib.hid h
  have HI := Lib.hid hIn
  have k0 : W.cell? ⟨K, 0, none⟩ = some (.int .i64 13) := HK.out 0 _ (by show some (Value.int .i64 r.op) = _; rw [hop]) HW.out
  have k12 : W.cell? ⟨K, 12, none⟩ = some (.int .i64 r.batch) := HK.out 12 _ rfl HW.out
  clear hW h hIn hop hK
  obtain ⟨g, rfl⟩ := hI.open_
  clear hI
  conv => arg 2; whnf
  have HE := Lib.hid HI.out.2.2.2.2.1
  have HT := Lib.hid (Kd.reads_of_C (d := (0 : Int)) HI.out.2.2.1.2.2)
  have Hd := Lib.hid hd
  clear hd
  go_wp2_with fail
  refine (put_any wB G [] _ _ 1 _ rfl (by omega) (by simp) HW.out).mono ?_
  rintro e w1 ⟨rfl, hW1, _⟩
  have HW1 := Lib.hid hW1
  clear hW1 k0 k12
  have k13 : w1.cell? ⟨K, 13, none⟩ = some (.slice As r.sts.length cs) := HK.out 13 _ rfl HW1.out
  go_wp2_with fail
  refine (put_any wB G _ _ _ 2 _ rfl (by omega) (by simp only [List.length_append, be_length, bytesOf_length, List.length_nil]; omega) HW1.out).mono ?_
  rintro e w2 ⟨rfl, hW2, _⟩
  have HW2 := Lib.hid hW2
  clear hW2 k13
  have k13 : w2.cell? ⟨K, 13, none⟩ = some (.slice As r.sts.length cs) := HK.out 13 _ rfl HW2.out
  go_wp2
  clear k13
  rw [List.nil_append] at HW2
  go_loopw [104] (fun v104 W => ∃ i : Nat, v104 = .int .i64 i ∧ i ≤ r.sts.length ∧ Hid (Wr wB W G (be 1 r.batch ++ be 2 r.sts.length ++ ((r.sts.take i).map sv).flatMap stbytes))) (fun v104 _ => r.sts.length - (intOf v104).toNat)
  case atStart => exact ⟨0, rfl, by omega, by simpa using HW2⟩
  case round =>
    obtain ⟨i, rfl, hi, HWx⟩ := hrel
    clear HW2 HW1
    have hcl : (be 1 r.batch ++ be 2 r.sts.length ++ ((r.sts.take i).map sv).flatMap stbytes).length ≤ 62000 := by
      have h1 := flat_le stbytes 6120 ((r.sts.take i).map sv) (fun y hy => by
        obtain ⟨x, hx, rfl⟩ := List.mem_map.1 hy
        exact st_le _ (Hd.out x (List.mem_of_mem_take hx)))
      have h2 : ((r.sts.take i).map sv).length ≤ 10 := by rw [List.length_map, List.length_take]; omega
      simp only [List.length_append, be_length]; omega
    by_cases hlt : i < r.sts.length
    · have hx : r.sts[i]? = some r.sts[i] := List.getElem?_eq_getElem hlt
      obtain ⟨ad, A1, c1, A2, c2, rfl, hx0, hx1, hx2, hl1, hi1, hl2, hi2⟩ := at_T58 HE.out (i : Int) (by omega) (by omega)
      have hrd : rd_T58 (r.sts.map c58) (i : Int) = c58 r.sts[i] := by simp [rd_T58, List.getD_eq_getElem?_getD, List.getElem?_map, hx]
      rw [hrd] at hx0 hx1 hx2 hl1 hi1 hl2 hi2
      rw [Int.toNat_natCast] at hx0 hx1 hx2
      obtain ⟨hdi, hds, hdn, hdv⟩ := Hd.out _ (List.getElem_mem hlt)
      have hsn : ((r.sts.take (i + 1)).map sv).flatMap stbytes = ((r.sts.take i).map sv).flatMap stbytes ++ stbytes (sv r.sts[i]) := by
        rw [List.take_succ_eq_append_getElem hlt, List.map_append, List.flatMap_append]; simp
      have Hsn := Lib.hid hsn
      have kx0 := pw_cell_below HWx.out.1 hx0
      have kx1 := pw_cell_below HWx.out.1 hx1
      have kx2 := pw_cell_below HWx.out.1 hx2
      clear hx hrd hx0 hx1 hx2 hsn
      generalize r.sts[i] = x at *
      generalize hcs : be 1 r.batch ++ be 2 r.sts.length ++ ((r.sts.take i).map sv).flatMap stbytes = bs at *
      have Hcs := Lib.hid hcs
      clear hcs
      obtain ⟨st, id, vs⟩ := x
      simp only [c58, List.length_map] at kx0 kx1 kx2 hl1 hi1 hl2 hi2
      simp only at hdi hds hdn hdv
      have HId := Lib.hid (ints_of hi1)
      have HVs := Lib.hid hi2
      have Hdv := Lib.hid hdv
      clear hi1 hi2 hdv
      have HWa := Lib.hid (HWx.out.alloc (.cells #[.string st, .slice A1 id.length c1, .slice A2 vs.length c2] 58))
      have HKb := Lib.hid (heap_alloc_new wr (.cells #[.string st, .slice A1 id.length c1, .slice A2 vs.length c2] 58))
      clear HWx
      by_cases hid0 : 0 < id.length
      · go_wp2_with fail
        refine (put_any wB G bs _ _ 1 _ rfl (by omega) (by omega) HWa.out).mono ?_
        rintro e w3 ⟨rfl, hW3, hK3⟩
        have HKb3 := Lib.hid (hK3 _ _ 58 (by decide) (by decide) HKb.out)
        have HW3 := Lib.hid hW3
        clear hW3 hK3
        have m0 : w3.cell? ⟨wr.heap.size, 0, none⟩ = some (.string st) := (cell_of_row _ _ 0 _ _ _ HKb3.out).trans rfl
        have m1 : w3.cell? ⟨wr.heap.size, 1, none⟩ = some (.slice A1 id.length c1) := (cell_of_row _ _ 1 _ _ _ HKb3.out).trans rfl
        have m2 : w3.cell? ⟨wr.heap.size, 2, none⟩ = some (.slice A2 vs.length c2) := (cell_of_row _ _ 2 _ _ _ HKb3.out).trans rfl
        go_wp2_with fail
        refine (short_any wB G _ id _ _ _ _ rfl (by simp only [List.length_append, be_length, bytesOf_length, List.length_nil]; omega) HW3.out HId.out).mono ?_
        rintro e w4 ⟨rfl, hW4, hK4⟩
        have HKb4 := Lib.hid (hK4 _ _ 58 (by decide) (by decide) HKb3.out)
        have HW4 := Lib.hid hW4
        clear hW4 hK4
        clear m0 m1 m2
        have m0 : w4.cell? ⟨wr.heap.size, 0, none⟩ = some (.string st) := (cell_of_row _ _ 0 _ _ _ HKb4.out).trans rfl
        have m1 : w4.cell? ⟨wr.heap.size, 1, none⟩ = some (.slice A1 id.length c1) := (cell_of_row _ _ 1 _ _ _ HKb4.out).trans rfl
        have m2 : w4.cell? ⟨wr.heap.size, 2, none⟩ = some (.slice A2 vs.length c2) := (cell_of_row _ _ 2 _ _ _ HKb4.out).trans rfl
        go_wp2_with fail
        refine (put_any wB G _ _ _ 2 _ rfl (by omega) (by simp only [List.length_append, be_length, bytesOf_length, List.length_nil]; omega) HW4.out).mono ?_
        rintro e w5 ⟨rfl, hW5, hK5⟩
        have HKb5 := Lib.hid (hK5 _ _ 58 (by decide) (by decide) HKb4.out)
        have HW5 := Lib.hid hW5
        clear hW5 hK5
        clear m0 m1 m2
        have m0 : w5.cell? ⟨wr.heap.size, 0, none⟩ = some (.string st) := (cell_of_row _ _ 0 _ _ _ HKb5.out).trans rfl
        have m1 : w5.cell? ⟨wr.heap.size, 1, none⟩ = some (.slice A1 id.length c1) := (cell_of_row _ _ 1 _ _ _ HKb5.out).trans rfl
        have m2 : w5.cell? ⟨wr.heap.size, 2, none⟩ = some (.slice A2 vs.length c2) := (cell_of_row _ _ 2 _ _ _ HKb5.out).trans rfl
        go_wp2
        clear m0 m1 m2 HKb HKb3 HKb4 HKb5 HWa HW3 HW4
        generalize hbs : bs ++ be 1 1 ++ (be 2 id.length ++ id) ++ be 2 vs.length = bs2 at *
        have Hbs := Lib.hid hbs
        have hcl3 : bs2.length ≤ 70000 := by rw [← hbs]; simp only [List.length_append, be_length, bytesOf_length]; omega
        clear hbs
        generalize A2 = A3 at *
        go_loopw [132] (fun v132 W => ∃ j : Nat, v132 = .int .i64 j ∧ j ≤ vs.length ∧ Hid (Wr wB W G (bs2 ++ ((vs.take j).map qv).flatMap (vbytes false)))) (fun v132 _ => vs.length - (intOf v132).toNat)
        case atStart => exact ⟨0, rfl, by omega, by simpa using HW5⟩
        case round =>
          rename_i wz _
          obtain ⟨j, rfl, hj, HW6⟩ := hrel
          clear HW5
          by_cases hlj : j < vs.length
          · have hx : vs[j]? = some vs[j] := List.getElem?_eq_getElem hlj
            obtain ⟨ad2, A4, c4, rfl, hx0, hx1, hx2, hx3, hl3, hi3⟩ := at_T87 HVs.out (j : Int) (by omega) (by omega)
            have hrd : rd_T87 (vs.map c87) (j : Int) = c87 vs[j] := by simp [rd_T87, List.getD_eq_getElem?_getD, List.getElem?_map, hx]
            rw [hrd] at hx0 hx1 hx2 hx3 hl3 hi3
            rw [Int.toNat_natCast] at hx0 hx1 hx2 hx3
            obtain ⟨hdx, hsx⟩ := Hdv.out _ (List.getElem_mem hlj)
            have hsn : ((vs.take (j + 1)).map qv).flatMap (vbytes false) = ((vs.take j).map qv).flatMap (vbytes false) ++ vbytes false (qv vs[j]) := by
              rw [List.take_succ_eq_append_getElem hlj, List.map_append, List.flatMap_append]; simp
            have hcl4 : (bs2 ++ ((vs.take j).map qv).flatMap (vbytes false)).length ≤ 80000 := by
              have h1 := flat_le (vbytes false) 300 ((vs.take j).map qv) (fun y hy => by
                obtain ⟨z, hz, rfl⟩ := List.mem_map.1 hy
                obtain ⟨g1, g2⟩ := Hdv.out z (List.mem_of_mem_take hz)
                exact vbytes_le false _ ⟨g2, fun l hl => by
                  simp only [qv] at hl
                  split at hl
                  · cases hl
                  · cases hl; exact g1⟩)
              have h2 : ((vs.take j).map qv).length ≤ 20 := by rw [List.length_map, List.length_take]; omega
              simp only [List.length_append]; omega
            have Hsn2 := Lib.hid hsn
            have kx0 := pw_cell_below HW6.out.1 hx0
            have kx1 := pw_cell_below HW6.out.1 hx1
            have kx2 := pw_cell_below HW6.out.1 hx2
            have kx3 := pw_cell_below HW6.out.1 hx3
            have Hi3 := Lib.hid (ints_of hi3)
            clear hx hrd hx0 hx1 hx2 hx3 hi3 hsn
            generalize vs[j] = x at *
            generalize hcs : bs2 ++ ((vs.take j).map qv).flatMap (vbytes false) = cs3 at *
            have Hcs3 := Lib.hid hcs
            clear hcs
            obtain ⟨xn, xu, xnl, xd⟩ := x
            simp only [c87] at kx0 kx1 kx2 kx3 hl3 Hi3 hdx hsx
            go_wp2_with fail
            refine (param_any wB G cs3 ⟨xn, xu, xnl, xd⟩ A4 c4 _ hdx (by omega) (HW6.out.alloc _) Hi3.out).mono ?_
            rintro e w7 ⟨rfl, hW7, _⟩
            have HW7 := Lib.hid hW7
            clear hW7
            go_wp2_with fail
            go_roundw
            case rel =>
              refine ⟨j + 1, by go_num, by omega, Lib.hid ?_⟩
              rw [Hsn2.out, ← List.append_assoc, Hcs3.out, vbytes_qv]
              exact HW7.out
            case measure => simp [intOf]; omega
          · have hjj : j = vs.length := by omega
            subst hjj
            rw [List.take_length] at HW6
            go_wp2
            go_roundw
            case rel =>
              refine ⟨i + 1, by go_num, by omega, Lib.hid ?_⟩
              rw [Hsn.out, ← List.append_assoc, Hcs.out]
              have h6 := HW6.out
              rw [← Hbs.out] at h6
              have e1 : be 1 (1 : Int) = [1] := by rw [be_1]; rfl
              rw [e1] at h6
              have hne : ¬ id = [] := by intro h; rw [h] at hid0; exact absurd hid0 (Nat.lt_irrefl 0)
              simpa [stbytes, shead, svals, sv, if_neg hne, List.append_assoc] using h6
            case measure => simp [intOf]; omega
      · go_wp2_with fail
        refine (put_any wB G bs _ _ 1 _ rfl (by omega) (by omega) HWa.out).mono ?_
        rintro e w3 ⟨rfl, hW3, hK3⟩
        have HKb3 := Lib.hid (hK3 _ _ 58 (by decide) (by decide) HKb.out)
        have HW3 := Lib.hid hW3
        clear hW3 hK3
        have m0 : w3.cell? ⟨wr.heap.size, 0, none⟩ = some (.string st) := (cell_of_row _ _ 0 _ _ _ HKb3.out).trans rfl
        have m1 : w3.cell? ⟨wr.heap.size, 1, none⟩ = some (.slice A1 id.length c1) := (cell_of_row _ _ 1 _ _ _ HKb3.out).trans rfl
        have m2 : w3.cell? ⟨wr.heap.size, 2, none⟩ = some (.slice A2 vs.length c2) := (cell_of_row _ _ 2 _ _ _ HKb3.out).trans rfl
        go_wp2_with fail
        refine (long_any wB G _ st _ (by simp only [List.length_append, be_length, bytesOf_length, List.length_nil]; omega) HW3.out).mono ?_
        rintro e w4 ⟨rfl, hW4, hK4⟩
        have HKb4 := Lib.hid (hK4 _ _ 58 (by decide) (by decide) HKb3.out)
        have HW4 := Lib.hid hW4
        clear hW4 hK4
        clear m0 m1 m2
        have m0 : w4.cell? ⟨wr.heap.size, 0, none⟩ = some (.string st) := (cell_of_row _ _ 0 _ _ _ HKb4.out).trans rfl
        have m1 : w4.cell? ⟨wr.heap.size, 1, none⟩ = some (.slice A1 id.length c1) := (cell_of_row _ _ 1 _ _ _ HKb4.out).trans rfl
        have m2 : w4.cell? ⟨wr.heap.size, 2, none⟩ = some (.slice A2 vs.length c2) := (cell_of_row _ _ 2 _ _ _ HKb4.out).trans rfl
        go_wp2_with fail
        refine (put_any wB G _ _ _ 2 _ rfl (by omega) (by simp only [List.length_append, be_length, bytesOf_length, List.length_nil]; omega) HW4.out).mono ?_
        rintro e w5 ⟨rfl, hW5, hK5⟩
        have HKb5 := Lib.hid (hK5 _ _ 58 (by decide) (by decide) HKb4.out)
        have HW5 := Lib.hid hW5
        clear hW5 hK5
        clear m0 m1 m2
        have m0 : w5.cell? ⟨wr.heap.size, 0, none⟩ = some (.string st) := (cell_of_row _ _ 0 _ _ _ HKb5.out).trans rfl
        have m1 : w5.cell? ⟨wr.heap.size, 1, none⟩ = some (.slice A1 id.length c1) := (cell_of_row _ _ 1 _ _ _ HKb5.out).trans rfl
        have m2 : w5.cell? ⟨wr.heap.size, 2, none⟩ = some (.slice A2 vs.length c2) := (cell_of_row _ _ 2 _ _ _ HKb5.out).trans rfl
        go_wp2
        clear m0 m1 m2 HKb HKb3 HKb4 HKb5 HWa HW3 HW4
        generalize hbs : bs ++ be 1 0 ++ (be 4 st.size ++ bytesOf st) ++ be 2 vs.length = bs2 at *
        have Hbs := Lib.hid hbs
        have hcl3 : bs2.length ≤ 70000 := by rw [← hbs]; simp only [List.length_append, be_length, bytesOf_length]; omega
        clear hbs
        generalize A2 = A3 at *
        go_loopw [132] (fun v132 W => ∃ j : Nat, v132 = .int .i64 j ∧ j ≤ vs.length ∧ Hid (Wr wB W G (bs2 ++ ((vs.take j).map qv).flatMap (vbytes false)))) (fun v132 _ => vs.length - (intOf v132).toNat)
        case atStart => exact ⟨0, rfl, by omega, by simpa using HW5⟩
        case round =>
          rename_i wz _
          obtain ⟨j, rfl, hj, HW6⟩ := hrel
          clear HW5
          by_cases hlj : j < vs.length
          · have hx : vs[j]? = some vs[j] := List.getElem?_eq_getElem hlj
            obtain ⟨ad2, A4, c4, rfl, hx0, hx1, hx2, hx3, hl3, hi3⟩ := at_T87 HVs.out (j : Int) (by omega) (by omega)
            have hrd : rd_T87 (vs.map c87) (j : Int) = c87 vs[j] := by simp [rd_T87, List.getD_eq_getElem?_getD, List.getElem?_map, hx]
            rw [hrd] at hx0 hx1 hx2 hx3 hl3 hi3
            rw [Int.toNat_natCast] at hx0 hx1 hx2 hx3
            obtain ⟨hdx, hsx⟩ := Hdv.out _ (List.getElem_mem hlj)
            have hsn : ((vs.take (j + 1)).map qv).flatMap (vbytes false) = ((vs.take j).map qv).flatMap (vbytes false) ++ vbytes false (qv vs[j]) := by
              rw [List.take_succ_eq_append_getElem hlj, List.map_append, List.flatMap_append]; simp
            have hcl4 : (bs2 ++ ((vs.take j).map qv).flatMap (vbytes false)).length ≤ 80000 := by
              have h1 := flat_le (vbytes false) 300 ((vs.take j).map qv) (fun y hy => by
                obtain ⟨z, hz, rfl⟩ := List.mem_map.1 hy
                obtain ⟨g1, g2⟩ := Hdv.out z (List.mem_of_mem_take hz)
                exact vbytes_le false _ ⟨g2, fun l hl => by
                  simp only [qv] at hl
                  split at hl
                  · cases hl
                  · cases hl; exact g1⟩)
              have h2 : ((vs.take j).map qv).length ≤ 20 := by rw [List.length_map, List.length_take]; omega
              simp only [List.length_append]; omega
            have Hsn2 := Lib.hid hsn
            have kx0 := pw_cell_below HW6.out.1 hx0
            have kx1 := pw_cell_below HW6.out.1 hx1
            have kx2 := pw_cell_below HW6.out.1 hx2
            have kx3 := pw_cell_below HW6.out.1 hx3
            have Hi3 := Lib.hid (ints_of hi3)
            clear hx hrd hx0 hx1 hx2 hx3 hi3 hsn
            generalize vs[j] = x at *
            generalize hcs : bs2 ++ ((vs.take j).map qv).flatMap (vbytes false) = cs3 at *
            have Hcs3 := Lib.hid hcs
            clear hcs
            obtain ⟨xn, xu, xnl, xd⟩ := x
            simp only [c87] at kx0 kx1 kx2 kx3 hl3 Hi3 hdx hsx
            go_wp2_with fail
            refine (param_any wB G cs3 ⟨xn, xu, xnl, xd⟩ A4 c4 _ hdx (by omega) (HW6.out.alloc _) Hi3.out).mono ?_
            rintro e w7 ⟨rfl, hW7, _⟩
            have HW7 := Lib.hid hW7
            clear hW7
            go_wp2_with fail
            go_roundw
            case rel =>
              refine ⟨j + 1, by go_num, by omega, Lib.hid ?_⟩
              rw [Hsn2.out, ← List.append_assoc, Hcs3.out, vbytes_qv]
              exact HW7.out
            case measure => simp [intOf]; omega
          · have hjj : j = vs.length := by omega
            subst hjj
            rw [List.take_length] at HW6
            go_wp2
            go_roundw
            case rel =>
              refine ⟨i + 1, by go_num, by omega, Lib.hid ?_⟩
              rw [Hsn.out, ← List.append_assoc, Hcs.out]
              have h6 := HW6.out
              rw [← Hbs.out] at h6
              have e1 : be 1 (0 : Int) = [0] := by rw [be_1]; rfl
              rw [e1] at h6
              have hne : id = [] := List.eq_nil_of_length_eq_zero (by omega)
              simpa [stbytes, shead, svals, sv, if_pos hne, List.append_assoc] using h6
            case measure => simp [intOf]; omega
    · have hii : i = r.sts.length := by omega
      subst hii
      rw [List.take_length] at HWx hcl
      clear HE Hd hi hlt
      have HT2 := HT
      generalize hA6 : r.q.A6 = A6 at HT2
      have HA6 := Lib.hid hA6
      clear hA6
      generalize hcs : be 1 r.batch ++ be 2 r.sts.length ++ (r.sts.map sv).flatMap stbytes = bs at *
      have Hcs := Lib.hid hcs
      clear hcs
      have ho1 : bits BinOp.or IntKind.i64 0 16 = 16 := rfl
      have ho2 : bits BinOp.or IntKind.i64 0 32 = 32 := rfl
      have ho3 : bits BinOp.or IntKind.i64 16 32 = 48 := rfl
      have k4 : wr.cell? ⟨K, 4, none⟩ = some (.int .i64 r.q.cons) := HK.out 4 _ rfl HWx.out
      go_wp2_with fail
      refine (put_any wB G bs _ _ 2 _ rfl (by omega) (by omega) HWx.out).mono ?_
      rintro e w3 ⟨rfl, hW3, _⟩
      have HW3 := Lib.hid hW3
      clear hW3 k4
      have k9 : w3.cell? ⟨K, 9, none⟩ = some (.int .i64 r.q.serial) := HK.out 9 _ rfl HW3.out
      have k10 : w3.cell? ⟨K, 10, none⟩ = some (.slice A6 r.q.ts.length r.q.c6) := HK.out 10 _ (by rw [← HA6.out]; rfl) HW3.out
      by_cases h5 : 0 < r.q.serial <;> by_cases h6 : 0 < r.q.ts.length
      · -- serial 1, a time 1
        have H5 := Lib.hid h5
        have H6 := Lib.hid h6
        go_wp2_with fail
        refine (put_any wB G _ _ _ 1 _ rfl (by omega) (by simp only [List.length_append, be_length, bytesOf_length, List.length_nil]; omega) HW3.out).mono ?_
        rintro e w4 ⟨rfl, hW4, _⟩
        have HW4 := Lib.hid hW4
        clear hW4 k9 k10
        have k9 : w4.cell? ⟨K, 9, none⟩ = some (.int .i64 r.q.serial) := HK.out 9 _ rfl HW4.out
        have k10 : w4.cell? ⟨K, 10, none⟩ = some (.slice A6 r.q.ts.length r.q.c6) := HK.out 10 _ (by rw [← HA6.out]; rfl) HW4.out
        go_wp2_with fail
        refine (put_any wB G _ _ _ 2 _ rfl (by omega) (by simp only [List.length_append, be_length, bytesOf_length, List.length_nil]; omega) HW4.out).mono ?_
        rintro e w5 ⟨rfl, hW5, _⟩
        have HW5 := Lib.hid hW5
        clear hW5 k9 k10
        have k9 : w5.cell? ⟨K, 9, none⟩ = some (.int .i64 r.q.serial) := HK.out 9 _ rfl HW5.out
        have k10 : w5.cell? ⟨K, 10, none⟩ = some (.slice A6 r.q.ts.length r.q.c6) := HK.out 10 _ (by rw [← HA6.out]; rfl) HW5.out
        go_wp2
        clear k9 k10
        have n5 : 0 < r.q.serial := by have := H5.out; omega
        have n6 : 0 < r.q.ts.length := by have := H6.out; omega
        have hF := bb_eq r.batch (r.sts.map sv) r.q 48 hb0 hb2 hts (by simp [bflags, bit, IQ.qp, n5, n6])
        rw [List.length_map, Hcs.out, opt_t n5] at hF
        generalize hcs : bs ++ be 2 r.q.cons ++ be 1 48 ++ be 2 r.q.serial = cs2 at *
        have Hcs2 := Lib.hid hcs
        have hcl5 : cs2.length ≤ 70000 := by rw [← hcs]; simp only [List.length_append, be_length, List.length_nil]; omega
        have HF := Lib.hid hF
        clear hcs hF n5 n6
        go_loopw [175] (fun v175 W => ∃ i : Nat, v175 = .int .i64 i ∧ i ≤ r.q.ts.length ∧ Hid (Wr wB W G (cs2 ++ (r.q.ts.take i).flatMap (be 8)))) (fun v175 _ => r.q.ts.length - (intOf v175).toNat)
        case atStart => exact ⟨0, rfl, by omega, by simpa using HW5⟩
        case round =>
          obtain ⟨i, rfl, hi, HW9⟩ := hrel
          clear HW5
          by_cases hlt : i < r.q.ts.length
          · have hx : r.q.ts[i]? = some r.q.ts[i] := List.getElem?_eq_getElem hlt
            obtain ⟨ad, rfl, hc⟩ := HT2.out.at_ (i : Int) (by omega) (by omega)
            have hrd : rdOf 0 r.q.ts (i : Int) = r.q.ts[i] := by simp [rdOf, List.getD_eq_getElem?_getD, hx]
            rw [hrd, Int.toNat_natCast] at hc
            have Hsn := Lib.hid (flat_snoc (be 8) r.q.ts i _ hx)
            have hcl6 : (cs2 ++ (r.q.ts.take i).flatMap (be 8)).length ≤ 80000 := by
              have h1 := flat_le (be 8) 8 (r.q.ts.take i) (fun y _ => by rw [be_length]; omega)
              have h2 : (r.q.ts.take i).length ≤ 1 := by rw [List.length_take]; omega
              simp only [List.length_append]; omega
            have kc := pw_cell_below HW9.out.1 hc
            clear hx hrd hc
            generalize r.q.ts[i] = x at *
            generalize hcs : cs2 ++ (r.q.ts.take i).flatMap (be 8) = cs3 at *
            have Hcs3 := Lib.hid hcs
            clear hcs
            go_wp2_with fail
            refine (put_any wB G cs3 _ _ 8 _ rfl (by omega) (by omega) HW9.out).mono ?_
            rintro e w8 ⟨rfl, hW8, _⟩
            have HW8 := Lib.hid hW8
            clear hW8
            go_wp2_with fail
            go_roundw
            case rel =>
              refine ⟨i + 1, by go_num, by omega, Lib.hid ?_⟩
              rw [Hsn.out, ← List.append_assoc, Hcs3.out]
              exact HW8.out
            case measure => simp [intOf]; omega
          · have hii : i = r.q.ts.length := by omega
            subst hii
            rw [List.take_length] at HW9
            go_wp2
            exact HH.out _ _ ⟨rfl, rfl, rfl, rfl, rfl, rfl⟩ (by rw [← HF.out]; exact HW9.out)
      · -- serial 1, a time 0
        have H5 := Lib.hid h5
        have H6 := Lib.hid h6
        go_wp2_with fail
        refine (put_any wB G _ _ _ 1 _ rfl (by omega) (by simp only [List.length_append, be_length, bytesOf_length, List.length_nil]; omega) HW3.out).mono ?_
        rintro e w4 ⟨rfl, hW4, _⟩
        have HW4 := Lib.hid hW4
        clear hW4 k9 k10
        have k9 : w4.cell? ⟨K, 9, none⟩ = some (.int .i64 r.q.serial) := HK.out 9 _ rfl HW4.out
        have k10 : w4.cell? ⟨K, 10, none⟩ = some (.slice A6 r.q.ts.length r.q.c6) := HK.out 10 _ (by rw [← HA6.out]; rfl) HW4.out
        go_wp2_with fail
        refine (put_any wB G _ _ _ 2 _ rfl (by omega) (by simp only [List.length_append, be_length, bytesOf_length, List.length_nil]; omega) HW4.out).mono ?_
        rintro e w5 ⟨rfl, hW5, _⟩
        have HW5 := Lib.hid hW5
        clear hW5 k9 k10
        have k9 : w5.cell? ⟨K, 9, none⟩ = some (.int .i64 r.q.serial) := HK.out 9 _ rfl HW5.out
        have k10 : w5.cell? ⟨K, 10, none⟩ = some (.slice A6 r.q.ts.length r.q.c6) := HK.out 10 _ (by rw [← HA6.out]; rfl) HW5.out
        go_wp2
        clear k9 k10
        have n5 : 0 < r.q.serial := by have := H5.out; omega
        have n6 : ¬ 0 < r.q.ts.length := by have := H6.out; omega
        have hF := bb_eq r.batch (r.sts.map sv) r.q 16 hb0 hb2 hts (by simp [bflags, bit, IQ.qp, n5, n6])
        rw [List.length_map, Hcs.out, opt_t n5] at hF
        generalize hcs : bs ++ be 2 r.q.cons ++ be 1 16 ++ be 2 r.q.serial = cs2 at *
        have Hcs2 := Lib.hid hcs
        have hcl5 : cs2.length ≤ 70000 := by rw [← hcs]; simp only [List.length_append, be_length, List.length_nil]; omega
        have HF := Lib.hid hF
        clear hcs hF n5 n6
        go_loopw [175] (fun v175 W => ∃ i : Nat, v175 = .int .i64 i ∧ i ≤ r.q.ts.length ∧ Hid (Wr wB W G (cs2 ++ (r.q.ts.take i).flatMap (be 8)))) (fun v175 _ => r.q.ts.length - (intOf v175).toNat)
        case atStart => exact ⟨0, rfl, by omega, by simpa using HW5⟩
        case round =>
          obtain ⟨i, rfl, hi, HW9⟩ := hrel
          clear HW5
          by_cases hlt : i < r.q.ts.length
          · have hx : r.q.ts[i]? = some r.q.ts[i] := List.getElem?_eq_getElem hlt
            obtain ⟨ad, rfl, hc⟩ := HT2.out.at_ (i : Int) (by omega) (by omega)
            have hrd : rdOf 0 r.q.ts (i : Int) = r.q.ts[i] := by simp [rdOf, List.getD_eq_getElem?_getD, hx]
            rw [hrd, Int.toNat_natCast] at hc
            have Hsn := Lib.hid (flat_snoc (be 8) r.q.ts i _ hx)
            have hcl6 : (cs2 ++ (r.q.ts.take i).flatMap (be 8)).length ≤ 80000 := by
              have h1 := flat_le (be 8) 8 (r.q.ts.take i) (fun y _ => by rw [be_length]; omega)
              have h2 : (r.q.ts.take i).length ≤ 1 := by rw [List.length_take]; omega
              simp only [List.length_append]; omega
            have kc := pw_cell_below HW9.out.1 hc
            clear hx hrd hc
            generalize r.q.ts[i] = x at *
            generalize hcs : cs2 ++ (r.q.ts.take i).flatMap (be 8) = cs3 at *
            have Hcs3 := Lib.hid hcs
            clear hcs
            go_wp2_with fail
            refine (put_any wB G cs3 _ _ 8 _ rfl (by omega) (by omega) HW9.out).mono ?_
            rintro e w8 ⟨rfl, hW8, _⟩
            have HW8 := Lib.hid hW8
            clear hW8
            go_wp2_with fail
            go_roundw
            case rel =>
              refine ⟨i + 1, by go_num, by omega, Lib.hid ?_⟩
              rw [Hsn.out, ← List.append_assoc, Hcs3.out]
              exact HW8.out
            case measure => simp [intOf]; omega
          · have hii : i = r.q.ts.length := by omega
            subst hii
            rw [List.take_length] at HW9
            go_wp2
            exact HH.out _ _ ⟨rfl, rfl, rfl, rfl, rfl, rfl⟩ (by rw [← HF.out]; exact HW9.out)
      · -- serial 0, a time 1
        have H5 := Lib.hid h5
        have H6 := Lib.hid h6
        go_wp2_with fail
        refine (put_any wB G _ _ _ 1 _ rfl (by omega) (by simp only [List.length_append, be_length, bytesOf_length, List.length_nil]; omega) HW3.out).mono ?_
        rintro e w4 ⟨rfl, hW4, _⟩
        have HW4 := Lib.hid hW4
        clear hW4 k9 k10
        have k9 : w4.cell? ⟨K, 9, none⟩ = some (.int .i64 r.q.serial) := HK.out 9 _ rfl HW4.out
        have k10 : w4.cell? ⟨K, 10, none⟩ = some (.slice A6 r.q.ts.length r.q.c6) := HK.out 10 _ (by rw [← HA6.out]; rfl) HW4.out
        go_wp2
        clear k9 k10
        have n5 : ¬ 0 < r.q.serial := by have := H5.out; omega
        have n6 : 0 < r.q.ts.length := by have := H6.out; omega
        have hF := bb_eq r.batch (r.sts.map sv) r.q 32 hb0 hb2 hts (by simp [bflags, bit, IQ.qp, n5, n6])
        rw [List.length_map, Hcs.out, opt_f n5, List.append_nil] at hF
        generalize hcs : bs ++ be 2 r.q.cons ++ be 1 32 = cs2 at *
        have Hcs2 := Lib.hid hcs
        have hcl5 : cs2.length ≤ 70000 := by rw [← hcs]; simp only [List.length_append, be_length, List.length_nil]; omega
        have HF := Lib.hid hF
        clear hcs hF n5 n6
        go_loopw [175] (fun v175 W => ∃ i : Nat, v175 = .int .i64 i ∧ i ≤ r.q.ts.length ∧ Hid (Wr wB W G (cs2 ++ (r.q.ts.take i).flatMap (be 8)))) (fun v175 _ => r.q.ts.length - (intOf v175).toNat)
        case atStart => exact ⟨0, rfl, by omega, by simpa using HW4⟩
        case round =>
          obtain ⟨i, rfl, hi, HW9⟩ := hrel
          clear HW4
          by_cases hlt : i < r.q.ts.length
          · have hx : r.q.ts[i]? = some r.q.ts[i] := List.getElem?_eq_getElem hlt
            obtain ⟨ad, rfl, hc⟩ := HT2.out.at_ (i : Int) (by omega) (by omega)
            have hrd : rdOf 0 r.q.ts (i : Int) = r.q.ts[i] := by simp [rdOf, List.getD_eq_getElem?_getD, hx]
            rw [hrd, Int.toNat_natCast] at hc
            have Hsn := Lib.hid (flat_snoc (be 8) r.q.ts i _ hx)
            have hcl6 : (cs2 ++ (r.q.ts.take i).flatMap (be 8)).length ≤ 80000 := by
              have h1 := flat_le (be 8) 8 (r.q.ts.take i) (fun y _ => by rw [be_length]; omega)
              have h2 : (r.q.ts.take i).length ≤ 1 := by rw [List.length_take]; omega
              simp only [List.length_append]; omega
            have kc := pw_cell_below HW9.out.1 hc
            clear hx hrd hc
            generalize r.q.ts[i] = x at *
            generalize hcs : cs2 ++ (r.q.ts.take i).flatMap (be 8) = cs3 at *
            have Hcs3 := Lib.hid hcs
            clear hcs
            go_wp2_with fail
            refine (put_any wB G cs3 _ _ 8 _ rfl (by omega) (by omega) HW9.out).mono ?_
            rintro e w8 ⟨rfl, hW8, _⟩
            have HW8 := Lib.hid hW8
            clear hW8
            go_wp2_with fail
            go_roundw
            case rel =>
              refine ⟨i + 1, by go_num, by omega, Lib.hid ?_⟩
              rw [Hsn.out, ← List.append_assoc, Hcs3.out]
              exact HW8.out
            case measure => simp [intOf]; omega
          · have hii : i = r.q.ts.length := by omega
            subst hii
            rw [List.take_length] at HW9
            go_wp2
            exact HH.out _ _ ⟨rfl, rfl, rfl, rfl, rfl, rfl⟩ (by rw [← HF.out]; exact HW9.out)
      · -- serial 0, a time 0
        have H5 := Lib.hid h5
        have H6 := Lib.hid h6
        go_wp2_with fail
        refine (put_any wB G _ _ _ 1 _ rfl (by omega) (by simp only [List.length_append, be_length, bytesOf_length, List.length_nil]; omega) HW3.out).mono ?_
        rintro e w4 ⟨rfl, hW4, _⟩
        have HW4 := Lib.hid hW4
        clear hW4 k9 k10
        have k9 : w4.cell? ⟨K, 9, none⟩ = some (.int .i64 r.q.serial) := HK.out 9 _ rfl HW4.out
        have k10 : w4.cell? ⟨K, 10, none⟩ = some (.slice A6 r.q.ts.length r.q.c6) := HK.out 10 _ (by rw [← HA6.out]; rfl) HW4.out
        go_wp2
        clear k9 k10
        have n5 : ¬ 0 < r.q.serial := by have := H5.out; omega
        have n6 : ¬ 0 < r.q.ts.length := by have := H6.out; omega
        have hF := bb_eq r.batch (r.sts.map sv) r.q 0 hb0 hb2 hts (by simp [bflags, bit, IQ.qp, n5, n6])
        rw [List.length_map, Hcs.out, opt_f n5, List.append_nil] at hF
        generalize hcs : bs ++ be 2 r.q.cons ++ be 1 0 = cs2 at *
        have Hcs2 := Lib.hid hcs
        have hcl5 : cs2.length ≤ 70000 := by rw [← hcs]; simp only [List.length_append, be_length, List.length_nil]; omega
        have HF := Lib.hid hF
        clear hcs hF n5 n6
        go_loopw [175] (fun v175 W => ∃ i : Nat, v175 = .int .i64 i ∧ i ≤ r.q.ts.length ∧ Hid (Wr wB W G (cs2 ++ (r.q.ts.take i).flatMap (be 8)))) (fun v175 _ => r.q.ts.length - (intOf v175).toNat)
        case atStart => exact ⟨0, rfl, by omega, by simpa using HW4⟩
        case round =>
          obtain ⟨i, rfl, hi, HW9⟩ := hrel
          clear HW4
          by_cases hlt : i < r.q.ts.length
          · have hx : r.q.ts[i]? = some r.q.ts[i] := List.getElem?_eq_getElem hlt
            obtain ⟨ad, rfl, hc⟩ := HT2.out.at_ (i : Int) (by omega) (by omega)
            have hrd : rdOf 0 r.q.ts (i : Int) = r.q.ts[i] := by simp [rdOf, List.getD_eq_getElem?_getD, hx]
            rw [hrd, Int.toNat_natCast] at hc
            have Hsn := Lib.hid (flat_snoc (be 8) r.q.ts i _ hx)
            have hcl6 : (cs2 ++ (r.q.ts.take i).flatMap (be 8)).length ≤ 80000 := by
              have h1 := flat_le (be 8) 8 (r.q.ts.take i) (fun y _ => by rw [be_length]; omega)
              have h2 : (r.q.ts.take i).length ≤ 1 := by rw [List.length_take]; omega
              simp only [List.length_append]; omega
            have kc := pw_cell_below HW9.out.1 hc
            clear hx hrd hc
            generalize r.q.ts[i] = x at *
            generalize hcs : cs2 ++ (r.q.ts.take i).flatMap (be 8) = cs3 at *
            have Hcs3 := Lib.hid hcs
            clear hcs
            go_wp2_with fail
            refine (put_any wB G cs3 _ _ 8 _ rfl (by omega) (by omega) HW9.out).mono ?_
            rintro e w8 ⟨rfl, hW8, _⟩
            have HW8 := Lib.hid hW8
            clear hW8
            go_wp2_with fail
            go_roundw
            case rel =>
              refine ⟨i + 1, by go_num, by omega, Lib.hid ?_⟩
              rw [Hsn.out, ← List.append_assoc, Hcs3.out]
              exact HW8.out
            case measure => simp [intOf]; omega
          · have hii : i = r.q.ts.length := by omega
            subst hii
            rw [List.take_length] at HW9
            go_wp2
            exact HH.out _ _ ⟨rfl, rfl, rfl, rfl, rfl, rfl⟩ (by rw [← HF.out]; exact HW9.out)
attribute [local irreducible] c9 t9
theorem e9 (p s : Int) (v2 : Value) (w : World) (R : Ending → World → Prop)
   (h : ∀ a : Act, a.defers = [] → a.tmps.size = 197 → a.tmps.getD 0 undef = .int .i64 p → a.tmps.getD 1 undef = .int .i64 s → a.tmps.getD 2 undef = v2 → Code.wp Tryz.prog ((c9 0).seq ((c9 1).seq ((c9 2).seq ((c9 3).seq (t9 4))))) (bodyPost Tryz.prog Tryz.f9 R) a w) :
    Calls Tryz.prog 9 #[.int .i64 p, .int .i64 s, v2] w R := by
  refine calls_by 197 Tryz.func9 body9 Tryz.ntmps9 (by simp) fun a hd hs hg => ?_
  refine h a hd hs ?_ ?_ ?_
  all_goals (rw [hg]; rfl)
theorem b9_any {Q : Exit → Act → World → Prop} {wB W : World} {p s : Int} {K G : Nat} {r : IR} {Ao A As : Option Addr} {co c cs : Nat} {a : Act} (hI : I9 p s K G a) (hW : Wr wB W G []) (hK : wB.heap[K]? = some (.cells (r.sc Ao co A c As cs) 39 (0, 0))) (hIn : r.SIn wB Ao A As) (hr : r.ok)
    (h : ∀ a' w', I9 p s K G a' → Wr wB w' G r.body → Q .normal a' w') : Code.wp Tryz.prog (c9 2) Q a W := by
  obtain ⟨hq, hr⟩ := hr
  rcases hr with ⟨h0, h1, h2, h3⟩ | h0 | ⟨h0, h1, h2⟩ | ⟨h0, h1⟩ | ⟨h0, h1, h2⟩ | ⟨h0, h1, h2⟩ | ⟨h0, h1, h2, h3, h4, h5⟩ | ⟨h0, h1⟩
  · have e : r.body = be 2 (r.opts.map kvOf).length ++ (r.opts.map kvOf).flatMap kvbytes := by unfold IR.body; rw [h0]; rfl
    rw [e] at h
    refine b9_startup hI hW hK hIn h0 h1 h2 h
  · have e : r.body = [] := by unfold IR.body; rw [h0]; rfl
    rw [e] at h
    refine b9_options hI hW hK hIn h0  h
  · have e : r.body = be 4 r.text.size ++ bytesOf r.text ++ qbytes r.q.qp := by unfold IR.body; rw [h0]; rfl
    rw [e] at h
    refine b9_query hI hW hK hIn h0 h1 hq h
  · have e : r.body = be 4 r.text.size ++ bytesOf r.text := by unfold IR.body; rw [h0]; rfl
    rw [e] at h
    refine b9_prepare hI hW hK hIn h0 h1 h
  · have e : r.body = be 2 r.id.length ++ r.id ++ qbytes r.q.qp := by unfold IR.body; rw [h0]; rfl
    rw [e] at h
    refine b9_execute hI hW hK hIn h0 h1 hq h
  · have e : r.body = be 2 r.ev.length ++ r.ev.flatMap sbytes := by unfold IR.body; rw [h0]; rfl
    rw [e] at h
    refine b9_register hI hW hK hIn h0 h1 h2 h
  · have e : r.body = bbytes r.batch (r.sts.map sv) r.q.qp := by unfold IR.body; rw [h0]; rfl
    rw [e] at h
    refine b9_batch hI hW hK hIn h0 h1 h2 h3 (fun x hx => ?_) hq.2.2.2.2.2.2.2.2.2 h
    obtain ⟨g1, g2, g3⟩ := h4 x hx
    obtain ⟨f1, f2, f3, f4⟩ := h5 (sv x) (List.mem_map.2 ⟨x, hx, rfl⟩)
    exact ⟨g1, f2, g2, fun y hy => ⟨g3 y hy, (f4 (qv y) (List.mem_map.2 ⟨y, hy, rfl⟩)).1.1⟩⟩
  · have e : r.body = be 4 r.data.length ++ r.data := by unfold IR.body; rw [h0]; rfl
    rw [e] at h
    refine b9_auth hI hW hK hIn h0 h1 h
theorem op_range (r : IR) (h : r.ok) : 0 ≤ r.op ∧ r.op ≤ 255 := by
  obtain ⟨_, h⟩ := h
  rcases h with h | h | h | h | h | h | h | h <;> first | (have := h.1; omega) | omega
theorem body_len (r : IR) (h : r.ok) : r.body.length ≤ 100000000 := by
  have h1 := frame_len 3 r 0 h
  simp [frame, be_length] at h1
  omega
set_option maxHeartbeats 1000000 in
theorem sasked_any (w : World) (p s : Int) (r : IR) (Ao A As : Option Addr) (co c cs : Nat) (hp : p = 3 ∨ p = 4) (hr : r.ok) (hI : r.SIn w Ao A As) :
    Calls Tryz.prog 9 #[.int .i64 p, .int .i64 s, .agg (r.sc Ao co A c As cs)] w fun e w' => ∃ v, e = .returned v ∧ Out w w' v (frame p r.op s r.body) := by
  have hb := below_alloc (Below.refl w.heap.size w) (.cells (r.sc Ao co A c As cs) 39)
  have hI' : r.SIn (w.alloc (.cells (r.sc Ao co A c As cs) 39)) Ao A As := ⟨Kd.C_below hI.1 hb, Kd.C_below hI.2.1 hb, ⟨Kd.C_below hI.2.2.1.1 hb, Kd.C_below hI.2.2.1.2.1 hb, Kd.C_below hI.2.2.1.2.2 hb⟩, Kd.C_below hI.2.2.2.1 hb, Kd.C_below hI.2.2.2.2.1 hb, Kd.C_below hI.2.2.2.2.2 hb⟩
  have hK := heap_alloc_new w (.cells (r.sc Ao co A c As cs) 39)
  refine e9 p s _ w _ fun a hd hs h0 h1 h2 => ?_
  refine a_01 hd hs h0 h1 h2 fun a1 W1 hI1 hW1 => ?_
  refine wp_seq (b9_any hI1 hW1 hK hI' hr fun a2 W2 hI2 hW2 => ?_)
  have hk0 := pw_cell_below hW2.1.drew ((cell_of_row _ _ 0 _ _ _ hK).trans rfl : _ = some (Value.int .i64 r.op))
  have hbw := below_then hb hb.size hW2.1
  obtain ⟨_, _, v, hc, ho⟩ := hW2
  obtain ⟨A5, m5, c5, rfl⟩ := own_form ho
  have hm : m5 = r.body.length := own_len ho
  subst hm
  refine wp_seq (a_3 hI2 hp (op_range r hr) (body_len r hr) hk0 (w_cell (blk_drew hc)) (own_reads' (own_drew ho)) fun a3 W3 v hd3 h6 hO => ?_)
  rw [t9_4]
  refine wp_ret ?_
  refine bodyPost_ret (v := v) ?_ hd3 ⟨v, rfl, hO.lower hbw.drew⟩
  have hr := results_tmp (fn := Tryz.f9) (P := Tryz.prog) rfl a3.tmps W3
  rw [h6] at hr
  exact hr
end Go.Proofs.YtammjbmfiakbnaaGreatDoor
