/-
  impl.values: values that are bound, copied. impl.params: a query's parameters.
-/
import Derived.Test.YtammjbmfiakbnaaGreatDoorK
import Derived.Test.YtammjbmfiakbnaaGreatDoorPFnRequestx0
namespace Go.Proofs.YtammjbmfiakbnaaGreatDoor
set_option maxHeartbeats 2000000
set_option maxRecDepth 100000
set_option linter.unusedSimpArgs false
set_option linter.unusedVariables false
open Go.RowKit Go.Proofs.YtammjbmfiakbnaaGreatDoorW.PrintWords Go.Proofs.YtammjbmfiakbnaaGreatDoorW.PrintLast Go.Proofs.YtammjbmfiakbnaaGreatDoorW.PrintMore
open Go.Proofs.YtammjbmfiakbnaaGreatDoor.PFnRequest
theorem ints_of {w : World} {A : Option Addr} {n : Nat} {xs : List Int} (h : (Kd.int .u8).C w A n xs) : ReadsInt w .u8 A n xs := by
  refine ⟨h.1, h.2.1, fun hn => ?_⟩
  obtain ⟨ad, rfl, hc⟩ := h.2.2 hn
  refine ⟨ad, rfl, fun j hj => ?_⟩
  have hl : j < xs.length := by rw [h.1]; exact hj
  obtain ⟨c, hs, hK, hcell⟩ := hc j _ (List.getElem?_eq_getElem hl)
  have hk : c = [.int .u8 xs[j]] := hK
  subst hk
  have := hcell 0 _ rfl
  rw [show (Kd.int IntKind.u8).sz = 1 from rfl, Nat.mul_one, Nat.add_zero] at this
  rw [this, List.getD_eq_getElem?_getD, List.getElem?_eq_getElem hl]
  rfl
/-- append(v, xs...) of bytes, and: what is not nil stays so. -/
theorem ap_row2 {W : World} {base : Nat} (t ty : TypeId) (ht : Tryz.prog.underlying t = some (.slice 5)) (v : Value) (xs ys : List Int) (A : Option Addr) (m c : Nat)
    (HO : W.ownsRow base 5 1 v xs.length (nums .u8 xs)) (HR : ReadsInt W .u8 A m ys) (hbase : base ≤ W.heap.size) (hl : xs.length + m ≤ 1000000000) :
    ∃ v1 w1, (Builtin.append_ #[t, t] ty #[v, .slice A m c]).run Tryz.prog W = .ok v1 w1 ∧ (Ap W base v (xs ++ ys) v1 w1 ∧ (v1 = .slice none 0 0 → v = .slice none 0 0)) := by
  obtain ⟨i0, hi, hz0, hz1, hz2⟩ := info_parts info5
  have hm : ys.length = m := HR.1
  rcases A with _ | ad
  · have h0 : m = 0 := by
      rcases Nat.eq_zero_or_pos m with h0 | h0
      · exact h0
      · obtain ⟨ad, h, _⟩ := HR.2.2 h0
        cases h
    subst h0
    obtain rfl : ys = [] := List.eq_nil_of_length_eq_zero hm
    refine ⟨v, W, ?_, ⟨by simpa using HO, World.grownBy.refl W _⟩, fun h => h⟩
    rcases HO.2 with ⟨rfl, hn⟩ | ⟨g, cap, cur, rfl, _, _, hnc, _⟩
    · simp [Builtin.append_, run_underlying ht, sizeOf, typeInfo, hi, Builtin.lenOf, Builtin.firstCells]
    · simp [Builtin.append_, run_underlying ht, sizeOf, typeInfo, hi, Builtin.lenOf, Builtin.firstCells, hnc, storeCells]
  · have hcells : ∀ j u, (nums .u8 ys)[j]? = some u → W.cell? (ad.add j) = some u := by
      intro j u hu
      have hj : j < ys.length := by
        rcases Nat.lt_or_ge j ys.length with h | h
        · exact h
        · simp [nums, List.getElem?_eq_none h] at hu
      obtain ⟨ad', h', hc⟩ := HR.2.2 (by omega)
      obtain rfl := Option.some.inj h'
      have := hc j (by omega)
      simp [nums, List.getElem?_eq_getElem hj] at hu
      subst hu
      rw [this]
      simp [List.getD_eq_getElem?_getD, List.getElem?_eq_getElem hj]
    obtain ⟨v1, w1, hr, h2, h3, h4, h5⟩ := run_append_own_at (P := Tryz.prog) W base t ty 5 i0 (.int .u8 0) 1 1 ht hi hz0 hz1 hz2 rfl (by omega) v xs.length (nums .u8 xs) HO ad m c (nums .u8 ys) (by simp [nums, hm]) hcells
      (by intro u hu; simp only [nums, List.mem_map] at hu; obtain ⟨q, _, rfl⟩ := hu; rfl) (by simp only [maxLen]; omega) (by omega) hbase
    exact ⟨v1, w1, hr, ⟨by simpa [nums, hm] using h2, h3⟩, fun h => (h4.1 h).1⟩
/-- What a bound value comes to. -/
def qv (x : S93) : QV := ⟨if x.f2 = true ∨ x.f1 = true then none else some x.f3, x.f0, x.f1⟩
/-- Its bytes, in a row of their own. -/
def VOwn (W : World) (base : Nat) (r : RV) (x : QV) : Prop := r.name = x.name ∧ r.unset = x.unset ∧ match x.value with | none => r.v = .slice none 0 0 | some l => (∃ g c, r.v = .slice (some ⟨g, 0, none⟩) l.length c) ∧ W.ownsRow base 5 1 r.v l.length (nums .u8 l)
theorem VOwn.map {W W1 : World} {base : Nat} {r : RV} {x : QV} (h : VOwn W base r x) (hm : ∀ v n xs, W.ownsRow base 5 1 v n xs → W1.ownsRow base 5 1 v n xs) : VOwn W1 base r x := by
  obtain ⟨h1, h2, h3⟩ := h
  refine ⟨h1, h2, ?_⟩
  cases hv : x.value with
  | none => rw [hv] at h3; exact h3
  | some l => rw [hv] at h3; exact ⟨h3.1, hm _ _ _ h3.2⟩
theorem VOwn.dat {W : World} {base : Nat} {r : RV} {x : QV} (h : VOwn W base r x) : r.name = x.name ∧ r.unset = x.unset ∧ DatR W r.v x.value := by
  obtain ⟨h1, h2, h3⟩ := h
  refine ⟨h1, h2, ?_⟩
  cases hv : x.value with
  | none => rw [hv] at h3; exact h3
  | some l =>
    rw [hv] at h3
    obtain ⟨⟨g, c, hg⟩, ho⟩ := h3
    refine ⟨_, c, hg, ?_⟩
    rw [hg] at ho
    exact own_reads' ho
/-- Bound values in rows of their own. -/
def VRow (W : World) (base : Nat) (v : Value) (rs : List RV) (xs : List QV) : Prop := W.ownsRow base 268 3 v xs.length (rs.flatMap RV.z) ∧ rs.length = xs.length ∧ ∀ (j : Nat) (r : RV), rs[j]? = some r → ∃ x, xs[j]? = some x ∧ VOwn W base r x
theorem VRow.map {W W1 : World} {base base' : Nat} {v : Value} {rs : List RV} {xs : List QV} (h : VRow W base v rs xs) (hm : ∀ e size v n cs, e = 5 ∨ e = 268 → W.ownsRow base e size v n cs → W1.ownsRow base' e size v n cs) : VRow W1 base' v rs xs :=
  ⟨hm _ _ _ _ _ (.inr rfl) h.1, h.2.1, fun j r hr => by
    obtain ⟨x, hx, h1, h2, h3⟩ := h.2.2 j r hr
    refine ⟨x, hx, h1, h2, ?_⟩
    cases hv : x.value with
    | none => rw [hv] at h3; exact h3
    | some l => rw [hv] at h3; exact ⟨h3.1, hm _ _ _ _ _ (.inl rfl) h3.2⟩⟩
theorem VRow.below_ {W W1 : World} {base : Nat} {v : Value} {rs : List RV} {xs : List QV} (h : VRow W base v rs xs) (hb : Below W.heap.size W W1) : VRow W1 base v rs xs := h.map fun _ _ _ _ _ _ ho => pw_own_below ho hb
theorem VRow.lower {W : World} {base base' : Nat} {v : Value} {rs : List RV} {xs : List QV} (h : VRow W base v rs xs) (hb : base' ≤ base) : VRow W base' v rs xs := h.map fun _ _ _ _ _ _ ho => own_weaken ho hb
theorem VRow.setL {W : World} {base B t : Nat} {v : Value} {rs : List RV} {xs : List QV} {cs : Array Value} (h : VRow W base v rs xs) (hB : W.heap[B]? = some (.cells cs t (0, 0))) (h1 : t ≠ 5) (h2 : t ≠ 268) (ys : List Value) (i : Nat) : VRow (setL W B i ys) base v rs xs :=
  h.map fun e _ _ _ _ he ho => setL_own (own_ne ho hB (by rcases he with rfl | rfl; exact Ne.symm h1; exact Ne.symm h2)) ys W i ho
theorem VRow.zrow {W : World} {base m c : Nat} {A : Option Addr} {rs : List RV} {xs : List QV} (h : VRow W base (.slice A m c) rs xs) : ZRow W A rs := by
  intro h0
  obtain ⟨_, g, hA, _, hc⟩ := own_cells h.1 (by rw [← h.2.1]; exact h0)
  refine ⟨g, hA, fun j r hr => ?_⟩
  have hf := fun k (hk : k < 3) => flat_at RV.z 3 (fun _ => rfl) rs j _ k hr hk
  exact ⟨hc _ _ ((hf 0 (by omega)).trans rfl), hc _ _ ((hf 1 (by omega)).trans rfl), hc _ _ ((hf 2 (by omega)).trans rfl)⟩
theorem VRow.rq {W : World} {base : Nat} {v : Value} {rs : List RV} {xs : List QV} (h : VRow W base v rs xs) : RQ W rs xs := by
  refine ⟨h.2.1, fun j r x hr hx => ?_⟩
  obtain ⟨y, hy, hv⟩ := h.2.2 j r hr
  obtain rfl : y = x := Option.some.inj (hy.symm.trans hx)
  exact hv.dat
set_option maxHeartbeats 4000000 in
theorem values_any (w : World) (A : Option Addr) (c : Nat) (xs : List S93) (hC : Kd.C k93 w A xs.length xs) (hN : xs.length ≤ 20) (hd : ∀ x ∈ xs, x.f3.length ≤ 100) :
    Calls Tryz.prog 81 #[.slice A xs.length c] w fun e w' => ∃ A' c' rs, e = .returned (.slice A' xs.length c') ∧ Below w.heap.size w w' ∧ VRow w' w.heap.size (.slice A' xs.length c') rs (xs.map qv) := by
  have HC := Lib.hid hC
  have Hd := Lib.hid hd
  clear hC hd
  go_enter Tryz.func81, Tryz.ntmps81
  go_wp2
  go_loopw [3, 9] (fun v3 v9 W => ∃ i : Nat, v9 = .int .i64 i ∧ i ≤ xs.length ∧ Hid (∃ rs : List RV, rs.length = i ∧ Below w.heap.size w W ∧ W.ownsRow w.heap.size 268 3 v3 i (rs.flatMap RV.z) ∧ ∀ (j : Nat) (r : RV), rs[j]? = some r → ∃ x, xs[j]? = some x ∧ VOwn W w.heap.size r (qv x))) (fun _ v9 _ => xs.length - (intOf v9).toNat)
  case atStart => exact ⟨0, rfl, by omega, Lib.hid ⟨[], rfl, Below.refl _ _, own_nil _ _ _ _, fun j r hr => by simp at hr⟩⟩
  case round =>
    obtain ⟨i, rfl, hi, HI⟩ := hrel
    obtain ⟨rs, hrs, hbe, hrow, hvo⟩ := HI.out
    clear HI
    have Hrs := Lib.hid hrs
    have HBe := Lib.hid hbe
    have HRow1 := Lib.hid hrow
    have HVo := Lib.hid hvo
    clear hrs hbe hrow hvo
    by_cases hlt : i < xs.length
    · have hx : xs[i]? = some xs[i] := List.getElem?_eq_getElem hlt
      obtain ⟨ad, A3, c3, rfl, hx0, hx1, hx2, hx3, hl3, hi3⟩ := at_T93 (Kd.C_below HC.out HBe.out) (i : Int) (by omega) (by omega)
      have hrd : rd_T93 xs (i : Int) = xs[i] := by simp [rd_T93, List.getD_eq_getElem?_getD, hx]
      rw [hrd] at hx0 hx1 hx2 hx3 hl3 hi3
      rw [Int.toNat_natCast] at hx0 hx1 hx2 hx3
      have hdx := Hd.out _ (List.getElem_mem hlt)
      generalize xs[i] = x at *
      have Hx := Lib.hid hx
      have Hi3 := Lib.hid (ints_of hi3)
      clear hx hrd hi3
      obtain ⟨xn, xun, xnull, xd⟩ := x
      simp only at hx0 hx1 hx2 hx3 hl3 hdx Hi3
      generalize hcs : rs.flatMap RV.z = cs at *
      have Hcs := Lib.hid hcs
      have HRow := HRow1
      clear hcs HRow1
      cases xnull with
      | true =>
        cases xun with
        | true =>
          have hl5 : Below wr.heap.size wr ((wr.alloc (Obj.cells #[.string xn, .bool true, .bool true, .slice A3 xd.length c3] 93)).alloc (Obj.cells #[.string xn, .slice none 0 0, .bool true] 268)) := below_alloc (below_alloc (Below.refl _ _) _) _
          go_upto_region 8 with (fail)
          have HK2 := heap_alloc_new2 wr (Obj.cells #[.string xn, .bool true, .bool true, .slice A3 xd.length c3] 93) (Obj.cells #[.string xn, .slice none 0 0, .bool true] 268)
          have hk0 := (cell_of_row _ _ 0 _ _ _ HK2).trans rfl
          have hk1 := (cell_of_row _ _ 1 _ _ _ HK2).trans rfl
          have hk2 := (cell_of_row _ _ 2 _ _ _ HK2).trans rfl
          have HBe5 := Lib.hid (below_then HBe.out HBe.out.size hl5)
          have HRow5 := Lib.hid (pw_own_below HRow.out hl5)
          have HVo5 : Hid (∀ (j : Nat) (r : RV), rs[j]? = some r → ∃ x, xs[j]? = some x ∧ VOwn ((wr.alloc (Obj.cells #[.string xn, .bool true, .bool true, .slice A3 xd.length c3] 93)).alloc (Obj.cells #[.string xn, .slice none 0 0, .bool true] 268)) w.heap.size r (qv x)) := Lib.hid (fun j r hr => (HVo.out j r hr).imp fun x h => ⟨h.1, h.2.map (fun v n xs ho => pw_own_below ho hl5)⟩)
          clear hl5 HK2 HBe HRow HVo hx0 hx1 hx2 hx3
          generalize (wr.alloc _).alloc _ = w5 at *
          generalize wr.heap.size + 1 = K2 at *
          go_wp2_with (at_builtin; refine app_list rfl (.tmp 31) (.tmp 33) 105 105 rfl u3 _ rfl rfl (ap_one 105 _ 268 3 48 _ Tryz.underlying105 info268 rfl (by omega) (by omega) u3 i cs w5.heap.size 1 (HRow5.out.alloc _) (heap_alloc_new _ _) rfl (by simp [Value.oneCell']) (by omega) (HBe5.out.alloc HBe5.out.size _).size) ?_; rintro v1 w6 ⟨hown, hgrow⟩)
          have hM : Hid (∀ v n xs, w5.ownsRow w.heap.size 5 1 v n xs → w6.ownsRow w.heap.size 5 1 v n xs) := Lib.hid (fun v n xs h => own_other (h.alloc _) hgrow (own_type_ne h HRow5.out (by decide)))
          go_roundw
          case rel =>
            refine ⟨i + 1, by go_num, by omega, Lib.hid ⟨rs ++ [⟨none, 0, 0, xn, true⟩], by simp [Hrs.out], pw_below_grown (HBe5.out.alloc HBe5.out.size _) _ (HBe5.out.alloc HBe5.out.size _).size hgrow (fun k hk => own_base HRow5.out k hk), ?_, ?_⟩⟩
            · rw [List.flatMap_append, Hcs.out]
              exact hown
            · intro j r hr
              by_cases hj : j < rs.length
              · rw [List.getElem?_append_left hj] at hr
                obtain ⟨x, hx, hv⟩ := HVo5.out j r hr
                exact ⟨x, hx, hv.map hM.out⟩
              · rw [List.getElem?_append_right (by omega)] at hr
                have hj0 : j - rs.length = 0 := by
                  rcases Nat.eq_zero_or_pos (j - rs.length) with h | h
                  · exact h
                  · rw [List.getElem?_eq_none (by simp; omega)] at hr; cases hr
                rw [hj0] at hr
                obtain rfl : (⟨none, 0, 0, xn, true⟩ : RV) = r := by simpa using hr
                have hji : j = i := by have := Hrs.out; omega
                subst hji
                refine ⟨_, Hx.out, ?_⟩
                exact ⟨rfl, rfl, rfl⟩
          case measure => simp [intOf]; omega
        | false =>
          have hl5 : Below wr.heap.size wr ((wr.alloc (Obj.cells #[.string xn, .bool false, .bool true, .slice A3 xd.length c3] 93)).alloc (Obj.cells #[.string xn, .slice none 0 0, .bool false] 268)) := below_alloc (below_alloc (Below.refl _ _) _) _
          go_upto_region 8 with (fail)
          have HK2 := heap_alloc_new2 wr (Obj.cells #[.string xn, .bool false, .bool true, .slice A3 xd.length c3] 93) (Obj.cells #[.string xn, .slice none 0 0, .bool false] 268)
          have hk0 := (cell_of_row _ _ 0 _ _ _ HK2).trans rfl
          have hk1 := (cell_of_row _ _ 1 _ _ _ HK2).trans rfl
          have hk2 := (cell_of_row _ _ 2 _ _ _ HK2).trans rfl
          have HBe5 := Lib.hid (below_then HBe.out HBe.out.size hl5)
          have HRow5 := Lib.hid (pw_own_below HRow.out hl5)
          have HVo5 : Hid (∀ (j : Nat) (r : RV), rs[j]? = some r → ∃ x, xs[j]? = some x ∧ VOwn ((wr.alloc (Obj.cells #[.string xn, .bool false, .bool true, .slice A3 xd.length c3] 93)).alloc (Obj.cells #[.string xn, .slice none 0 0, .bool false] 268)) w.heap.size r (qv x)) := Lib.hid (fun j r hr => (HVo.out j r hr).imp fun x h => ⟨h.1, h.2.map (fun v n xs ho => pw_own_below ho hl5)⟩)
          clear hl5 HK2 HBe HRow HVo hx0 hx1 hx2 hx3
          generalize (wr.alloc _).alloc _ = w5 at *
          generalize wr.heap.size + 1 = K2 at *
          go_wp2_with (at_builtin; refine app_list rfl (.tmp 31) (.tmp 33) 105 105 rfl u3 _ rfl rfl (ap_one 105 _ 268 3 48 _ Tryz.underlying105 info268 rfl (by omega) (by omega) u3 i cs w5.heap.size 1 (HRow5.out.alloc _) (heap_alloc_new _ _) rfl (by simp [Value.oneCell']) (by omega) (HBe5.out.alloc HBe5.out.size _).size) ?_; rintro v1 w6 ⟨hown, hgrow⟩)
          have hM : Hid (∀ v n xs, w5.ownsRow w.heap.size 5 1 v n xs → w6.ownsRow w.heap.size 5 1 v n xs) := Lib.hid (fun v n xs h => own_other (h.alloc _) hgrow (own_type_ne h HRow5.out (by decide)))
          go_roundw
          case rel =>
            refine ⟨i + 1, by go_num, by omega, Lib.hid ⟨rs ++ [⟨none, 0, 0, xn, false⟩], by simp [Hrs.out], pw_below_grown (HBe5.out.alloc HBe5.out.size _) _ (HBe5.out.alloc HBe5.out.size _).size hgrow (fun k hk => own_base HRow5.out k hk), ?_, ?_⟩⟩
            · rw [List.flatMap_append, Hcs.out]
              exact hown
            · intro j r hr
              by_cases hj : j < rs.length
              · rw [List.getElem?_append_left hj] at hr
                obtain ⟨x, hx, hv⟩ := HVo5.out j r hr
                exact ⟨x, hx, hv.map hM.out⟩
              · rw [List.getElem?_append_right (by omega)] at hr
                have hj0 : j - rs.length = 0 := by
                  rcases Nat.eq_zero_or_pos (j - rs.length) with h | h
                  · exact h
                  · rw [List.getElem?_eq_none (by simp; omega)] at hr; cases hr
                rw [hj0] at hr
                obtain rfl : (⟨none, 0, 0, xn, false⟩ : RV) = r := by simpa using hr
                have hji : j = i := by have := Hrs.out; omega
                subst hji
                refine ⟨_, Hx.out, ?_⟩
                exact ⟨rfl, rfl, rfl⟩
          case measure => simp [intOf]; omega
      | false =>
        cases xun with
        | true =>
          have hl5 : Below wr.heap.size wr ((wr.alloc (Obj.cells #[.string xn, .bool true, .bool false, .slice A3 xd.length c3] 93)).alloc (Obj.cells #[.string xn, .slice none 0 0, .bool true] 268)) := below_alloc (below_alloc (Below.refl _ _) _) _
          go_upto_region 8 with (fail)
          have HK2 := heap_alloc_new2 wr (Obj.cells #[.string xn, .bool true, .bool false, .slice A3 xd.length c3] 93) (Obj.cells #[.string xn, .slice none 0 0, .bool true] 268)
          have hk0 := (cell_of_row _ _ 0 _ _ _ HK2).trans rfl
          have hk1 := (cell_of_row _ _ 1 _ _ _ HK2).trans rfl
          have hk2 := (cell_of_row _ _ 2 _ _ _ HK2).trans rfl
          have HBe5 := Lib.hid (below_then HBe.out HBe.out.size hl5)
          have HRow5 := Lib.hid (pw_own_below HRow.out hl5)
          have HVo5 : Hid (∀ (j : Nat) (r : RV), rs[j]? = some r → ∃ x, xs[j]? = some x ∧ VOwn ((wr.alloc (Obj.cells #[.string xn, .bool true, .bool false, .slice A3 xd.length c3] 93)).alloc (Obj.cells #[.string xn, .slice none 0 0, .bool true] 268)) w.heap.size r (qv x)) := Lib.hid (fun j r hr => (HVo.out j r hr).imp fun x h => ⟨h.1, h.2.map (fun v n xs ho => pw_own_below ho hl5)⟩)
          clear hl5 HK2 HBe HRow HVo hx0 hx1 hx2 hx3
          generalize (wr.alloc _).alloc _ = w5 at *
          generalize wr.heap.size + 1 = K2 at *
          go_wp2_with (at_builtin; refine app_list rfl (.tmp 31) (.tmp 33) 105 105 rfl u3 _ rfl rfl (ap_one 105 _ 268 3 48 _ Tryz.underlying105 info268 rfl (by omega) (by omega) u3 i cs w5.heap.size 1 (HRow5.out.alloc _) (heap_alloc_new _ _) rfl (by simp [Value.oneCell']) (by omega) (HBe5.out.alloc HBe5.out.size _).size) ?_; rintro v1 w6 ⟨hown, hgrow⟩)
          have hM : Hid (∀ v n xs, w5.ownsRow w.heap.size 5 1 v n xs → w6.ownsRow w.heap.size 5 1 v n xs) := Lib.hid (fun v n xs h => own_other (h.alloc _) hgrow (own_type_ne h HRow5.out (by decide)))
          go_roundw
          case rel =>
            refine ⟨i + 1, by go_num, by omega, Lib.hid ⟨rs ++ [⟨none, 0, 0, xn, true⟩], by simp [Hrs.out], pw_below_grown (HBe5.out.alloc HBe5.out.size _) _ (HBe5.out.alloc HBe5.out.size _).size hgrow (fun k hk => own_base HRow5.out k hk), ?_, ?_⟩⟩
            · rw [List.flatMap_append, Hcs.out]
              exact hown
            · intro j r hr
              by_cases hj : j < rs.length
              · rw [List.getElem?_append_left hj] at hr
                obtain ⟨x, hx, hv⟩ := HVo5.out j r hr
                exact ⟨x, hx, hv.map hM.out⟩
              · rw [List.getElem?_append_right (by omega)] at hr
                have hj0 : j - rs.length = 0 := by
                  rcases Nat.eq_zero_or_pos (j - rs.length) with h | h
                  · exact h
                  · rw [List.getElem?_eq_none (by simp; omega)] at hr; cases hr
                rw [hj0] at hr
                obtain rfl : (⟨none, 0, 0, xn, true⟩ : RV) = r := by simpa using hr
                have hji : j = i := by have := Hrs.out; omega
                subst hji
                refine ⟨_, Hx.out, ?_⟩
                exact ⟨rfl, rfl, rfl⟩
          case measure => simp [intOf]; omega
        | false =>
          have hl5 : Below wr.heap.size wr (((wr.alloc (Obj.cells #[.string xn, .bool false, .bool false, .slice A3 xd.length c3] 93)).alloc (Obj.cells #[.string xn, .slice none 0 0, .bool false] 268)).alloc (Obj.cells #[] 5)) := below_alloc (below_alloc (below_alloc (Below.refl _ _) _) _) _
          have hK2a := blk_alloc (heap_alloc_new2 wr (Obj.cells #[.string xn, .bool false, .bool false, .slice A3 xd.length c3] 93) (Obj.cells #[.string xn, .slice none 0 0, .bool false] 268)) (Obj.cells #[] 5)
          have hB3 := heap_alloc_new ((wr.alloc (Obj.cells #[.string xn, .bool false, .bool false, .slice A3 xd.length c3] 93)).alloc (Obj.cells #[.string xn, .slice none 0 0, .bool false] 268)) (Obj.cells #[] 5)
          have hsz2 : ((wr.alloc (Obj.cells #[.string xn, .bool false, .bool false, .slice A3 xd.length c3] 93)).alloc (Obj.cells #[.string xn, .slice none 0 0, .bool false] 268)).heap.size = wr.heap.size + 1 + 1 := by simp
          rw [hsz2] at hB3
          have HO3 : Hid ((((wr.alloc (Obj.cells #[.string xn, .bool false, .bool false, .slice A3 xd.length c3] 93)).alloc (Obj.cells #[.string xn, .slice none 0 0, .bool false] 268)).alloc (Obj.cells #[] 5)).ownsRow wr.heap.size 5 1 (.slice (some ⟨wr.heap.size + 1 + 1, 0, none⟩) 0 0) ([] : List Int).length (nums .u8 [])) := Lib.hid ⟨by simp [nums], .inr ⟨_, 0, #[], rfl, by omega, hB3, Nat.le_refl _, by simp [maxLen], rfl, rfl⟩⟩
          have HI5 := Lib.hid (Hi3.out.below hl5)
          have HL5 := Lib.hid hl5
          have HK2a := Lib.hid hK2a
          clear hl5 hK2a hB3 hsz2
          go_upto_region 8 with (at_builtin; refine app_list rfl (.tmp 26) (.tmp 28) 23 23 rfl (.slice (some ⟨wr.heap.size + 1 + 1, 0, none⟩) 0 0) _ rfl rfl (ap_row2 23 _ Tryz.underlying23 _ [] xd A3 _ c3 HO3.out HI5.out HL5.out.size (by simp only [List.length_nil]; omega)) ?_; rintro vd w4 ⟨⟨hownd, hgd⟩, hnn⟩; have HK4 := Lib.hid (blk_grown HK2a.out hgd (own_ne HO3.out HK2a.out (by decide))); have hk1 : w4.cell? ⟨wr.heap.size + 1, 1, none⟩ = some (.slice none 0 0) := (cell_of_row _ _ 1 _ _ _ HK4.out).trans rfl; have hf1 := blk_froz (i := 1) HK4.out; obtain ⟨Ad, md, cd, rfl⟩ := own_form hownd)
          rw [List.nil_append] at hownd
          have hl4 : Below wr.heap.size wr w4 := pw_below_grown HL5.out _ HL5.out.size hgd (fun k hk => own_base HO3.out k hk)
          have hl5 : Below wr.heap.size wr (w4.setCell ⟨wr.heap.size + 1, 1, none⟩ (.slice Ad md cd)) := hl4.setCell (p := ⟨wr.heap.size + 1, 1, none⟩) (by simp) _
          have hown5 := own_setCell (p := ⟨wr.heap.size + 1, 1, none⟩) hownd (own_ne hownd HK4.out (by decide)) (.slice Ad md cd)
          have HK2 : (w4.setCell ⟨wr.heap.size + 1, 1, none⟩ (.slice Ad md cd)).heap[wr.heap.size + 1]? = some (.cells #[.string xn, .slice Ad md cd, .bool false] 268 (0, 0)) := (blk_set HK4.out 1 (.slice Ad md cd)).trans rfl
          have hform : ∃ g, Ad = some ⟨g, 0, none⟩ ∧ md = xd.length := by
            rcases hownd.2 with ⟨h, _⟩ | ⟨g, cap, cur, h, _⟩
            · exact absurd (hnn h) (by simp)
            · cases h; exact ⟨g, rfl, rfl⟩
          obtain ⟨gd, rfl, rfl⟩ := hform
          have hk0 := (cell_of_row _ _ 0 _ _ _ HK2).trans rfl
          have hk1' := (cell_of_row _ _ 1 _ _ _ HK2).trans rfl
          have hk2 := (cell_of_row _ _ 2 _ _ _ HK2).trans rfl
          have HBe5 := Lib.hid (below_then HBe.out HBe.out.size hl5)
          have HRow5 := Lib.hid (pw_own_below HRow.out hl5)
          have HVo5 : Hid (∀ (j : Nat) (r : RV), rs[j]? = some r → ∃ x, xs[j]? = some x ∧ VOwn (w4.setCell ⟨wr.heap.size + 1, 1, none⟩ (.slice (some ⟨gd, 0, none⟩) xd.length cd)) w.heap.size r (qv x)) := Lib.hid (fun j r hr => (HVo.out j r hr).imp fun x h => ⟨h.1, h.2.map (fun v n xs ho => pw_own_below ho hl5)⟩)
          have HOd := Lib.hid (own_weaken hown5 HBe.out.size)
          clear hl5 hl4 HK2 HK4 hk1 hf1 hown5 hownd hgd hnn HO3 HI5 HL5 HK2a HBe HRow HVo hx0 hx1 hx2 hx3
          generalize w4.setCell _ _ = w5 at *
          generalize wr.heap.size + 1 = K2 at *
          go_wp2_with (at_builtin; refine app_list rfl (.tmp 31) (.tmp 33) 105 105 rfl u3 _ rfl rfl (ap_one 105 _ 268 3 48 _ Tryz.underlying105 info268 rfl (by omega) (by omega) u3 i cs w5.heap.size 1 (HRow5.out.alloc _) (heap_alloc_new _ _) rfl (by simp [Value.oneCell']) (by omega) (HBe5.out.alloc HBe5.out.size _).size) ?_; rintro v1 w6 ⟨hown, hgrow⟩)
          have hM : Hid (∀ v n xs, w5.ownsRow w.heap.size 5 1 v n xs → w6.ownsRow w.heap.size 5 1 v n xs) := Lib.hid (fun v n xs h => own_other (h.alloc _) hgrow (own_type_ne h HRow5.out (by decide)))
          go_roundw
          case rel =>
            refine ⟨i + 1, by go_num, by omega, Lib.hid ⟨rs ++ [⟨some ⟨gd, 0, none⟩, xd.length, cd, xn, false⟩], by simp [Hrs.out], pw_below_grown (HBe5.out.alloc HBe5.out.size _) _ (HBe5.out.alloc HBe5.out.size _).size hgrow (fun k hk => own_base HRow5.out k hk), ?_, ?_⟩⟩
            · rw [List.flatMap_append, Hcs.out]
              exact hown
            · intro j r hr
              by_cases hj : j < rs.length
              · rw [List.getElem?_append_left hj] at hr
                obtain ⟨x, hx, hv⟩ := HVo5.out j r hr
                exact ⟨x, hx, hv.map hM.out⟩
              · rw [List.getElem?_append_right (by omega)] at hr
                have hj0 : j - rs.length = 0 := by
                  rcases Nat.eq_zero_or_pos (j - rs.length) with h | h
                  · exact h
                  · rw [List.getElem?_eq_none (by simp; omega)] at hr; cases hr
                rw [hj0] at hr
                obtain rfl : (⟨some ⟨gd, 0, none⟩, xd.length, cd, xn, false⟩ : RV) = r := by simpa using hr
                have hji : j = i := by have := Hrs.out; omega
                subst hji
                refine ⟨_, Hx.out, ?_⟩
                exact ⟨rfl, rfl, ⟨gd, cd, rfl⟩, hM.out _ _ _ HOd.out⟩
          case measure => simp [intOf]; omega
    · have hii : i = xs.length := by omega
      obtain ⟨A', c', hv⟩ := own_slice HRow1.out
      subst hv
      go_wp2
      go_ret
      refine ⟨A', c', rs, by rw [← hii]; rfl, HBe.out, ?_, ?_, ?_⟩
      · rw [List.length_map, ← hii]; exact HRow1.out
      · rw [Hrs.out, hii, List.length_map]
      · intro j r hr
        obtain ⟨y, hy, hv⟩ := HVo.out j r hr
        exact ⟨qv y, by rw [List.getElem?_map, hy]; rfl, hv⟩
/-- A query as impl has it. -/
structure IQ where
  cons : Int
  skip : Bool
  A : Option Addr
  c : Nat
  vals : List S93
  page : Int
  A4 : Option Addr
  c4 : Nat
  paging : List Int
  serial : Int
  A6 : Option Addr
  c6 : Nat
  ts : List Int
abbrev IQ.cells (q : IQ) : Array Value := #[.int .i64 q.cons, .bool q.skip, .slice q.A q.vals.length q.c, .int .i64 q.page, .slice q.A4 q.paging.length q.c4, .int .i64 q.serial, .slice q.A6 q.ts.length q.c6]
/-- How it lies in memory. -/
def IQ.In (w : World) (q : IQ) : Prop := Kd.C k93 w q.A q.vals.length q.vals ∧ (Kd.int .u8).C w q.A4 q.paging.length q.paging ∧ (Kd.int .i64).C w q.A6 q.ts.length q.ts
/-- What is compared. -/
def IQ.ok (q : IQ) : Prop := 0 ≤ q.cons ∧ q.cons ≤ 10 ∧ q.vals.length ≤ 20 ∧ (∀ x ∈ q.vals, x.f3.length ≤ 100 ∧ x.f0.size ≤ 100) ∧ 0 ≤ q.page ∧ q.page ≤ 2147483647 ∧ q.paging.length ≤ 100 ∧ 0 ≤ q.serial ∧ q.serial ≤ 9 ∧ q.ts.length ≤ 1
/-- The parameters that it comes to. -/
def IQ.qp (q : IQ) : QP := ⟨q.cons, q.skip, q.vals.map qv, q.page, q.paging, q.serial, decide (0 < q.ts.length), q.ts.getD 0 0⟩
abbrev kcells (q : IQ) (A1 : Option Addr) (c1 : Nat) (A2 : Option Addr) (c2 : Nat) (h : Bool) (t : Int) : Array Value := #[.int .u16 q.cons, .bool q.skip, .slice A1 q.vals.length c1, .int .i64 q.page, .slice A2 q.paging.length c2, .int .u16 q.serial, .bool h, .int .i64 t, .string ⟨#[]⟩]
abbrev zero108 : Array Value := #[.int .u16 0, .bool false, .slice none 0 0, .int .i64 0, .slice none 0 0, .int .u16 0, .bool false, .int .i64 0, .string ⟨#[]⟩]
theorem grown_nil {w w1 : World} {v : Value} (hg : w.grownBy w1 v.ownBlock) (h : v.ownBlock = none) : Below w.heap.size w w1 := (Below.refl _ _).grown hg (Nat.le_refl _) (fun k hk => by rw [h] at hk; cases hk)
theorem own_len {w : World} {base e n m c : Nat} {A : Option Addr} {xs : List Int} (h : w.ownsRow base e 1 (.slice A m c) n (nums .u8 xs)) : m = n := by
  obtain ⟨A', c', h'⟩ := own_slice h
  cases h'
  rfl
noncomputable def c41 (k : Nat) : Code := nth k (Tryz.f41.body.getD .skip)
noncomputable def t41 (k : Nat) : Code := tl k (Tryz.f41.body.getD .skip)
/-- The slots of impl.params that are known. -/
def I41 (q : IQ) (B1 B2 KB : Nat) (a : Act) : Prop := a.defers = [] ∧ a.tmps.size = 53 ∧ a.tmps.getD 0 undef = .agg q.cells ∧ a.tmps.getD 1 undef = .pointer (some ⟨B1, 0, none⟩) ∧ a.tmps.getD 2 undef = .pointer (some ⟨B2, 0, none⟩) ∧ a.tmps.getD 4 undef = .pointer (some ⟨KB, 0, none⟩)
theorem I41.open_ {q : IQ} {B1 B2 KB : Nat} {a : Act} (h : I41 q B1 B2 KB a) : ∃ g : Nat → Value, a = ⟨#[.agg q.cells, .pointer (some ⟨B1, 0, none⟩), .pointer (some ⟨B2, 0, none⟩), g 3, .pointer (some ⟨KB, 0, none⟩), g 5, g 6, g 7, g 8, g 9, g 10, g 11, g 12, g 13, g 14, g 15, g 16, g 17, g 18, g 19, g 20, g 21, g 22, g 23, g 24, g 25, g 26, g 27, g 28, g 29, g 30, g 31, g 32, g 33, g 34, g 35, g 36, g 37, g 38, g 39, g 40, g 41, g 42, g 43, g 44, g 45, g 46, g 47, g 48, g 49, g 50, g 51, g 52], []⟩ := by
  obtain ⟨hd, hs, h0, h1, h2, h4⟩ := h
  refine ⟨fun t => a.tmps.getD t undef, ?_⟩
  have e := frame_open 53 a hd hs
  generalize hg : (fun t => a.tmps.getD t undef) = g at e
  have g0 : g 0 = .agg q.cells := by rw [← hg]; exact h0
  have g1 : g 1 = .pointer (some ⟨B1, 0, none⟩) := by rw [← hg]; exact h1
  have g2 : g 2 = .pointer (some ⟨B2, 0, none⟩) := by rw [← hg]; exact h2
  have g4 : g 4 = .pointer (some ⟨KB, 0, none⟩) := by rw [← hg]; exact h4
  have e2 : ((List.range 53).map g).toArray = #[g 0, g 1, g 2, g 3, g 4, g 5, g 6, g 7, g 8, g 9, g 10, g 11, g 12, g 13, g 14, g 15, g 16, g 17, g 18, g 19, g 20, g 21, g 22, g 23, g 24, g 25, g 26, g 27, g 28, g 29, g 30, g 31, g 32, g 33, g 34, g 35, g 36, g 37, g 38, g 39, g 40, g 41, g 42, g 43, g 44, g 45, g 46, g 47, g 48, g 49, g 50, g 51, g 52] := rfl
  rw [g0, g1, g2, g4] at e2
  rw [e, e2]
/-- What is known of memory behind the first statement. -/
def F41 (w : World) (q : IQ) (KB : Nat) (A1 : Option Addr) (c1 : Nat) (A2 : Option Addr) (c2 : Nat) (rs : List RV) (W : World) : Prop :=
  Below w.heap.size w W ∧ W.heap[KB]? = some (.cells (kcells q A1 c1 A2 c2 false 0) 108 (0, 0)) ∧ W.heap[w.heap.size]? = some (.cells q.cells 27 (0, 0)) ∧ W.heap[w.heap.size + 1]? = some (.cells zero108 108 (0, 0)) ∧ w.heap.size + 1 < KB ∧ VRow W w.heap.size (.slice A1 q.vals.length c1) rs (q.vals.map qv) ∧ W.ownsRow w.heap.size 5 1 (.slice A2 q.paging.length c2) q.paging.length (nums .u8 q.paging)
end Go.Proofs.YtammjbmfiakbnaaGreatDoor
