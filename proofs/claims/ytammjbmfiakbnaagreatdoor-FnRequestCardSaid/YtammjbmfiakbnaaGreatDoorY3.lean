/-
  impl.asked: the frame of a request, registering; starting up.
-/
import Derived.Test.YtammjbmfiakbnaaGreatDoorY
namespace Go.Proofs.YtammjbmfiakbnaaGreatDoor
set_option maxHeartbeats 2000000
set_option maxRecDepth 100000
set_option linter.unusedSimpArgs false
set_option linter.unusedVariables false
open Go.RowKit Go.Proofs.YtammjbmfiakbnaaGreatDoorW.PrintWords Go.Proofs.YtammjbmfiakbnaaGreatDoorW.PrintLast Go.Proofs.YtammjbmfiakbnaaGreatDoorW.PrintMore
open Go.Proofs.YtammjbmfiakbnaaGreatDoor.PFnRequest
open Go.Maps Go.WideMaps
theorem ap_strs {W : World} {base : Nat} (t ty : TypeId) (ht : Tryz.prog.underlying t = some (.slice 9)) (v : Value) (xs ys : List ByteArray) (ad : Addr) (m c : Nat)
    (HO : W.ownsRow base 9 1 v xs.length (pw_strs xs)) (HR : Kd.C Kd.string W (some ad) m ys) (hbase : base ≤ W.heap.size) (hl : xs.length + m ≤ 1000000000) :
    ∃ v1 w1, (Builtin.append_ #[t, t] ty #[v, .slice (some ad) m c]).run Tryz.prog W = .ok v1 w1 ∧ (w1.ownsRow base 9 1 v1 (xs.length + m) (pw_strs (xs ++ ys)) ∧ W.grownBy w1 v.ownBlock ∧ (v1 = .slice none 0 0 → v = .slice none 0 0)) := by
  obtain ⟨i0, hi, hz0, hz1, hz2⟩ := info_parts info9
  have hm : ys.length = m := HR.1
  have hrd := Kd.reads_of_C (d := ByteArray.empty) HR
  have hcells : ∀ j u, (pw_strs ys)[j]? = some u → W.cell? (ad.add j) = some u := by
    intro j u hu
    have hj : j < ys.length := by
      rcases Nat.lt_or_ge j ys.length with h | h
      · exact h
      · simp [pw_strs, List.getElem?_eq_none h] at hu
    obtain ⟨ad', h', hc⟩ := hrd.2.2 (by omega)
    obtain rfl := Option.some.inj h'
    have := hc j (by omega)
    simp [pw_strs, List.getElem?_eq_getElem hj] at hu
    subst hu
    rw [this]
    simp [rdOf, List.getD_eq_getElem?_getD, List.getElem?_eq_getElem hj]
  obtain ⟨v1, w1, hr, h2, h3, h4, h5⟩ := run_append_own_at (P := Tryz.prog) W base t ty 9 i0 (.string ⟨#[]⟩) 1 16 ht hi hz0 hz1 hz2 rfl (by omega) v xs.length (pw_strs xs) HO ad m c (pw_strs ys) (by simp [pw_strs, hm]) hcells
    (by intro u hu; simp only [pw_strs, List.mem_map] at hu; obtain ⟨q, _, rfl⟩ := hu; rfl) (by simp only [maxLen]; omega) (by omega) hbase
  exact ⟨v1, w1, hr, by simpa [pw_strs] using h2, h3, fun h => (h4.1 h).1⟩
set_option maxHeartbeats 1000000 in
/-- slices.Clone of strings. -/
theorem clone_any (w : World) (A : Option Addr) (c : Nat) (xs : List ByteArray) (hC : Kd.C Kd.string w A xs.length xs) (hN : xs.length ≤ 10) :
    Calls Tryz.prog 48 #[.slice A xs.length c] w fun e w' => ∃ A' c', e = .returned (.slice A' xs.length c') ∧ Below w.heap.size w w' ∧ StrRow w' A' xs := by
  rcases A with _ | ad
  · have h0 : xs.length = 0 := by
      rcases Nat.eq_zero_or_pos xs.length with h | h
      · exact h
      · obtain ⟨ad, h', _⟩ := hC.2.2 h
        cases h'
    obtain rfl : xs = [] := List.eq_nil_of_length_eq_zero h0
    have heq := fun w : World => Lib.run_eql_slice_nil (P := Tryz.prog) w 28 9 none 0 c 0 0 Tryz.underlying28
    go_enter Tryz.func48, Tryz.ntmps48
    go_wp2
    go_ret
    exact ⟨none, 0, rfl, Below.refl _ _, fun h => absurd h (Nat.lt_irrefl 0)⟩
  · have HC := Lib.hid hC
    clear hC
    have heq := fun w : World => Lib.run_eql_slice_nil (P := Tryz.prog) w 28 9 (some ad) xs.length c 0 0 Tryz.underlying28
    have HO := Lib.hid (own_empty w 9 w.heap.size 1 (Nat.le_refl _))
    have HL := Lib.hid (below_alloc (Below.refl w.heap.size w) (.cells #[] 9))
    have HR := Lib.hid (Kd.C_below HC.out HL.out)
    go_enter Tryz.func48, Tryz.ntmps48
    go_wp2_with (at_builtin; refine app_list rfl (.tmp 5) (.tmp 6) 28 28 rfl (.slice (some ⟨w.heap.size, 0, none⟩) 0 0) _ rfl rfl (ap_strs 28 _ Tryz.underlying28 _ [] xs ad _ c HO.out HR.out HL.out.size (by simp only [List.length_nil]; omega)) ?_; rintro vd w4 ⟨hownd, hgd, hnn⟩; obtain ⟨Ad2, md, cd2, rfl⟩ := own_form hownd)
    go_ret
    have hl4 : Below w.heap.size w w4 := pw_below_grown HL.out _ HL.out.size hgd (fun k hk => own_base HO.out k hk)
    rw [List.nil_append, List.length_nil, Nat.zero_add] at hownd
    have hm : md = xs.length := by
      obtain ⟨A', c', h'⟩ := own_slice hownd
      cases h'
      rfl
    subst hm
    refine ⟨Ad2, cd2, rfl, hl4, fun h0 => ?_⟩
    obtain ⟨_, g, hA, _, hc⟩ := own_cells hownd h0
    exact ⟨g, hA, fun i x hx => hc i _ (by simp [pw_strs, hx])⟩
theorem asked_register (w : World) (p s : Int) (r : IR) (hp : p = 3 ∨ p = 4) (hq : r.q.ok) (hI : r.In w) (hop : r.op = 11) (hN : r.ev.length ≤ 10) (hok : ∀ x ∈ r.ev, x.size ≤ 100) :
    Calls Tryz.prog 23 #[.int .u8 p, .int .i64 s, .agg r.cells] w fun e w' => ∃ v, e = .returned (.tuple #[v, .bool true, .nilIface]) ∧ Out w w' v (frame p r.op s (be 2 r.ev.length ++ r.ev.flatMap sbytes)) := by
  have HB := Lib.hid (below_alloc (Below.refl w.heap.size w) (.cells r.cells 31))
  have HK := Lib.hid (heap_alloc_new w (.cells r.cells 31))
  have HI := Lib.hid (hI.below_ HB.out)
  have Hq := Lib.hid hq
  clear hI hq
  obtain ⟨op, Ao, co, opts, text, Ai, ci, id, q, Ae, ce, ev, batch, As, cs, sts, Ad, cd, data⟩ := r
  simp only at hop HB HK HI Hq hN hok
  subst hop
  go_enter Tryz.func23, Tryz.ntmps23
  go_wp2_with fail
  refine (params_any _ q Hq.out HI.out.2.2.1).mono ?_
  rintro e w1 ⟨A1, c1, A2, c2, rs, rfl, hb, hZ, hRQ, hP⟩
  have HB1 := Lib.hid (below_then HB.out HB.out.size hb)
  have HI1 := Lib.hid (HI.out.below_ hb)
  have HK1 := Lib.hid (blk_below HK.out hb)
  have HBn := Lib.hid (below_alloc (Below.refl w1.heap.size w1) (.cells (pAgg q.qp A1 q.vals.length c1 A2 c2) 108))
  have HB2 := Lib.hid (below_then HB1.out HB1.out.size HBn.out)
  have HI2 := Lib.hid (HI1.out.below_ HBn.out)
  have HK2 := Lib.hid (blk_alloc HK1.out (.cells (pAgg q.qp A1 q.vals.length c1 A2 c2) 108))
  have HZ2 := Lib.hid (hZ.below_ HBn.out)
  have HR2 := Lib.hid (hRQ.below_ HBn.out)
  have HP2 := Lib.hid (hP.below HBn.out)
  have HQ2 := Lib.hid (heap_alloc_new w1 (.cells (pAgg q.qp A1 q.vals.length c1 A2 c2) 108))
  clear hb hZ hRQ hP HI HK HB
  have k0 := (cell_of_row _ _ 0 _ _ _ HK2.out).trans rfl
  have k11 := (cell_of_row _ _ 11 _ _ _ HK2.out).trans rfl
  have Hok := Lib.hid hok
  clear hok
  go_wp2_with fail
  refine (clone_any _ Ae ce ev HI2.out.2.2.2.1 hN).mono ?_
  rintro e w3 ⟨A3, c3, rfl, hb3, hR3⟩
  have HB3 := Lib.hid (below_then HB2.out HB2.out.size hb3)
  clear hb3
  have HR3 := Lib.hid hR3
  clear hR3
  go_wp2_with fail
  refine (zz_register w3 p s ev A3 c3 hN Hok.out HR3.out hp).mono ?_
  rintro e w4 ⟨v, rfl, hO⟩
  go_wp2_with fail
  go_ret3
  exact ⟨v, rfl, hO.lower HB3.out⟩
/-- An option. -/
def kvOf (x : S53) : ByteArray × ByteArray := (x.f0, x.f1)
theorem kvmap_put {D : DataW Unit} {kvs : List (ByteArray × ByteArray)} {kv : ByteArray × ByteArray} (h : KVMap D kvs) (ht : Maps.Tidy D) (hk : kv.1.size ≤ 100 ∧ kv.2.size ≤ 100)
    (hlt : ((kvs ++ [kv]).map fun kv => kv.1.data.toList).Pairwise (· < ·)) : KVMap (D.put (.string kv.1.data.toList) (.lit (.string kv.2.data.toList))) (kvs ++ [kv]) := by
  obtain ⟨h1, h2, h3, h4, h5⟩ := h
  have hlt0 := hlt
  rw [List.map_append, List.pairwise_append] at hlt
  have hnot : kv.1.data.toList ∉ kvs.map fun kv => kv.1.data.toList := fun hm => absurd (hlt.2.2 _ hm _ (by simp)) (List.lt_irrefl _)
  have hhas : Maps.has D (.string kv.1.data.toList) = false := by
    cases hh : Maps.has D (.string kv.1.data.toList) with
    | false => rfl
    | true => exact absurd ((h2 _).1 hh) hnot
  have hkey : WideAt.IsKeyLit (.string kv.1.data.toList) := trivial
  refine ⟨?_, fun x => ?_, fun kv' hm zd => ?_, hlt0, fun kv' hm => ?_⟩
  · rw [Maps.size_put ht, hhas, List.length_append, h1]; rfl
  · by_cases hx : x = kv.1.data.toList
    · subst hx
      exact ⟨fun _ => by simp, fun _ => Maps.has_put_same ht.isMap hkey _⟩
    · rw [Maps.has_put_other (by intro h; cases h; exact hx rfl), h2 x, List.map_append, List.mem_append]
      exact ⟨.inl, fun h => h.elim id (fun h => absurd (by simpa using h) hx)⟩
  · rcases List.mem_append.1 hm with hm | hm
    · have hne : kv'.1.data.toList ≠ kv.1.data.toList := fun he => hnot (he ▸ List.mem_map.2 ⟨kv', hm, rfl⟩)
      rw [Maps.atKey_put_other (by intro h; injection h with h; exact hne h)]
      exact h3 kv' hm zd
    · obtain rfl : kv' = kv := by simpa using hm
      exact Maps.atKey_put_same ht.isMap hkey _ _
  · rcases List.mem_append.1 hm with hm | hm
    · exact h5 kv' hm
    · obtain rfl : kv' = kv := by simpa using hm
      exact hk
theorem kvmap_nil : KVMap (.map [] : DataW Unit) [] := ⟨rfl, fun x => by simp [Maps.has_eq], fun kv h => by simp at h, List.Pairwise.nil, fun kv h => by simp at h⟩
theorem asked_startup (w : World) (p s : Int) (r : IR) (hp : p = 3 ∨ p = 4) (hq : r.q.ok) (hI : r.In w) (hop : r.op = 1) (hN : r.opts.length ≤ 10) (hok : ∀ x ∈ r.opts, x.f0.size ≤ 100 ∧ x.f1.size ≤ 100) (hlt : ((r.opts.map kvOf).map fun kv => kv.1.data.toList).Pairwise (· < ·)) :
    Calls Tryz.prog 23 #[.int .u8 p, .int .i64 s, .agg r.cells] w fun e w' => ∃ v, e = .returned (.tuple #[v, .bool true, .nilIface]) ∧ Out w w' v (frame p r.op s (be 2 (r.opts.map kvOf).length ++ (r.opts.map kvOf).flatMap kvbytes)) := by
  have HB := Lib.hid (below_alloc (Below.refl w.heap.size w) (.cells r.cells 31))
  have HK := Lib.hid (heap_alloc_new w (.cells r.cells 31))
  have HI := Lib.hid (hI.below_ HB.out)
  have Hq := Lib.hid hq
  clear hI hq
  obtain ⟨op, Ao, co, opts, text, Ai, ci, id, q, Ae, ce, ev, batch, As, cs, sts, Ad, cd, data⟩ := r
  simp only at hop HB HK HI Hq hN hok hlt
  subst hop
  go_enter Tryz.func23, Tryz.ntmps23
  go_wp2_with fail
  refine (params_any _ q Hq.out HI.out.2.2.1).mono ?_
  rintro e w1 ⟨A1, c1, A2, c2, rs, rfl, hb, hZ, hRQ, hP⟩
  have HB1 := Lib.hid (below_then HB.out HB.out.size hb)
  have HI1 := Lib.hid (HI.out.below_ hb)
  have HK1 := Lib.hid (blk_below HK.out hb)
  have HBn := Lib.hid (below_alloc (Below.refl w1.heap.size w1) (.cells (pAgg q.qp A1 q.vals.length c1 A2 c2) 108))
  have HB2 := Lib.hid (below_then HB1.out HB1.out.size HBn.out)
  have HI2 := Lib.hid (HI1.out.below_ HBn.out)
  have HK2 := Lib.hid (blk_alloc HK1.out (.cells (pAgg q.qp A1 q.vals.length c1 A2 c2) 108))
  have HZ2 := Lib.hid (hZ.below_ HBn.out)
  have HR2 := Lib.hid (hRQ.below_ HBn.out)
  have HP2 := Lib.hid (hP.below HBn.out)
  have HQ2 := Lib.hid (heap_alloc_new w1 (.cells (pAgg q.qp A1 q.vals.length c1 A2 c2) 108))
  clear hb hZ hRQ hP HI HK HB
  have k0 := (cell_of_row _ _ 0 _ _ _ HK2.out).trans rfl
  have k1 := (cell_of_row _ _ 1 _ _ _ HK2.out).trans rfl
  have Hok := Lib.hid hok
  have Hlt := Lib.hid hlt
  clear hok hlt
  have hmm := @run_makeMap Tryz.prog
  have k1 := (cell_of_row _ _ 1 _ _ _ (blk_alloc HK2.out (.map #[] 0))).trans rfl
  go_wp2
  have hsz : (w1.alloc (.cells (pAgg q.qp A1 q.vals.length c1 A2 c2) 108)).heap.size = w1.heap.size + 1 := by simp
  have Hsz := Lib.hid hsz
  clear k0 k1 hsz hmm HBn HI1 HK1 HB1 HZ2 HR2 HP2 HQ2 HK2
  generalize hwq : w1.alloc _ = w2 at *
  clear hwq
  generalize w1.heap.size + 1 = Bm at *
  go_loopw [32] (fun v32 W => ∃ i : Nat, v32 = .int .i64 i ∧ i ≤ opts.length ∧ Hid (∃ D : DataW Unit, W.ownsMap Tryz.prog 9 (plainElem Tryz.prog 9) Bm i D ∧ KVMap D ((opts.take i).map kvOf) ∧ Below w2.heap.size w2 W)) (fun v32 _ => opts.length - (intOf v32).toNat)
  case atStart =>
    refine ⟨0, rfl, by omega, Lib.hid ⟨.map [], ?_, kvmap_nil, below_alloc (Below.refl _ _) _⟩⟩
    have h := World.ownsMap_made (H := Unit) w2 Tryz.prog 9 (plainElem Tryz.prog 9)
    rw [Hsz.out] at h
    exact h
  case round =>
    obtain ⟨i, rfl, hi, HI9⟩ := hrel
    obtain ⟨D, hm, hkv, hbe⟩ := HI9.out
    clear HI9
    have HM := Lib.hid hm
    have HKV := Lib.hid hkv
    have HBe := Lib.hid hbe
    clear hm hkv hbe
    by_cases hlt : i < opts.length
    · have hx : opts[i]? = some opts[i] := List.getElem?_eq_getElem hlt
      obtain ⟨ad, rfl, hx0, hx1⟩ := at_T53 (Kd.C_below HI2.out.1 HBe.out) (i : Int) (by omega) (by simpa using hlt)
      have hrd : rd_T53 opts (i : Int) = opts[i] := by simp [rd_T53, List.getD_eq_getElem?_getD, hx]
      rw [hrd] at hx0 hx1
      rw [Int.toNat_natCast] at hx0 hx1
      have hokx := Hok.out _ (List.getElem_mem hlt)
      have Htk := Lib.hid (List.take_succ_eq_append_getElem hlt)
      generalize opts[i] = x at *
      clear hx hrd
      obtain ⟨xk, xv⟩ := x
      simp only at hx0 hx1 hokx
      have hkey : keyOf Tryz.prog 9 (.string xk) = some (.string xk.data.toList) := keyOf_string_mk Tryz.underlying9 (by unfold maxLen; omega)
      have HKey := Lib.hid hkey
      have hl1 : xv.size ≤ maxLen := by unfold maxLen; omega
      clear hkey
      go_wp2_with (at_mapUpdate; refine wpList_mapUpdate_own _ rfl _ _ _ 111 rfl 9 9 law9 Tryz.underlying111 _ Bm i D rfl (HM.out.alloc _) (by unfold maxLen; omega) _ _ _ rfl rfl HKey.out _ [] (plainElem_string Tryz.underlying9 hl1) ?_; intro w5 hown1 hgrow1)
      have Hown := Lib.hid hown1
      have hbe5 : Below w2.heap.size w2 w5 := pw_below_grown (below_alloc HBe.out _) (some Bm) (below_alloc HBe.out _).size hgrow1 (fun k hk => by cases hk; rw [Hsz.out]; exact Nat.le_refl _)
      have HBe5 := Lib.hid hbe5
      clear hown1 hgrow1 hbe5 hx0 hx1 hl1
      go_roundw
      case rel =>
        refine ⟨i + 1, by go_num, by omega, Lib.hid ⟨_, Hown.out, ?_, HBe5.out⟩⟩
        rw [Htk.out, List.map_append]
        refine kvmap_put (kv := (xk, xv)) HKV.out (HM.out.tidy law9) hokx ?_
        have h := Hlt.out
        have e : List.map kvOf (List.take i opts) ++ [(xk, xv)] = List.map kvOf (opts.take (i + 1)) := by rw [Htk.out, List.map_append]; rfl
        rw [e, List.map_take, List.map_take]
        exact h.sublist (List.take_sublist _ _)
      case measure => simp [intOf]; omega
    · have hii : i = opts.length := by omega
      subst hii
      have hkv := HKV.out
      rw [List.take_length] at hkv
      have Hkv := Lib.hid hkv
      clear hkv
      go_wp2_with fail
      refine (zz_startup wr p s Bm _ D (opts.map kvOf) hp (by rw [List.length_map]; exact hN) Hkv.out HM.out).mono ?_
      rintro e w4 ⟨v, rfl, hO⟩
      go_wp2_with fail
      go_ret3
      exact ⟨v, rfl, hO.lower (below_then HB2.out HB2.out.size HBe.out)⟩
end Go.Proofs.YtammjbmfiakbnaaGreatDoor
