/-
  impl.params: a query's parameters. impl.statements: the statements of a batch, copied.
-/
import Derived.Test.YtammjbmfiakbnaaGreatDoorV1
import Derived.Test.YtammjbmfiakbnaaGreatDoorV3
import Derived.Test.YtammjbmfiakbnaaGreatDoorN
namespace Go.Proofs.YtammjbmfiakbnaaGreatDoor
set_option maxHeartbeats 2000000
set_option maxRecDepth 100000
set_option linter.unusedSimpArgs false
set_option linter.unusedVariables false
open Go.RowKit Go.Proofs.YtammjbmfiakbnaaGreatDoorW.PrintWords Go.Proofs.YtammjbmfiakbnaaGreatDoorW.PrintLast Go.Proofs.YtammjbmfiakbnaaGreatDoorW.PrintMore
open Go.Proofs.YtammjbmfiakbnaaGreatDoor.PFnRequest
theorem t41_4 : t41 4 = .ret := rfl
/-- What stays of the first statement's memory behind stores into the two blocks of parameters. -/
def L41 (w : World) (q : IQ) (A1 : Option Addr) (c1 : Nat) (A2 : Option Addr) (c2 : Nat) (rs : List RV) (W : World) : Prop :=
  Below w.heap.size w W ∧ VRow W w.heap.size (.slice A1 q.vals.length c1) rs (q.vals.map qv) ∧ W.ownsRow w.heap.size 5 1 (.slice A2 q.paging.length c2) q.paging.length (nums .u8 q.paging)
theorem L41.setL {w W : World} {q : IQ} {A1 A2 : Option Addr} {c1 c2 B : Nat} {rs : List RV} {cs : Array Value} (h : L41 w q A1 c1 A2 c2 rs W) (hB : W.heap[B]? = some (.cells cs 108 (0, 0))) (hge : w.heap.size ≤ B) (ys : List Value) (i : Nat) : L41 w q A1 c1 A2 c2 rs (Go.Proofs.YtammjbmfiakbnaaGreatDoor.setL W B i ys) :=
  ⟨setL_below hge _ _ _ h.1, h.2.1.setL hB (by decide) (by decide) _ _, setL_own (own_ne h.2.2 hB (by decide)) _ _ _ h.2.2⟩
theorem L41.drew {w W : World} {q : IQ} {A1 A2 : Option Addr} {c1 c2 : Nat} {rs : List RV} (h : L41 w q A1 c1 A2 c2 rs W) : L41 w q A1 c1 A2 c2 rs W.drew := ⟨h.1.drew, h.2.1.below_ (Below.refl _ _).drew, h.2.2⟩
/-- The end: what is handed back. -/
theorem p41_end {w W : World} {q : IQ} {A1 A2 : Option Addr} {c1 c2 B2 : Nat} {rs : List RV} {h : Bool} {t : Int} {a' : Act} (hL : L41 w q A1 c1 A2 c2 rs W) (hB : W.heap[B2]? = some (.cells (kcells q A1 c1 A2 c2 h t) 108 (0, 0)))
    (hd : a'.defers = []) (h2 : a'.tmps.getD 2 undef = .pointer (some ⟨B2, 0, none⟩)) (h3 : a'.tmps.getD 3 undef = .bool true) (hh : h = decide (0 < q.ts.length)) (ht : t = q.ts.getD 0 0) :
    Code.wp Tryz.prog (t41 4) (bodyPost Tryz.prog Tryz.f41 (fun e w' => ∃ A1 c1 A2 c2 rs, e = .returned (.tuple #[.agg (pAgg q.qp A1 q.vals.length c1 A2 c2), .bool true]) ∧ Below w.heap.size w w' ∧ ZRow w' A1 rs ∧ RQ w' rs (q.vals.map qv) ∧ ReadsInt w' .u8 A2 q.paging.length q.paging)) a' W := by
  rw [t41_4]
  refine wp_ret ?_
  subst hh ht
  refine bodyPost_ret (v := .tuple #[.agg (pAgg q.qp A1 q.vals.length c1 A2 c2), .bool true]) ?_ hd ⟨A1, c1, A2, c2, rs, rfl, hL.1, hL.2.1.zrow, hL.2.1.rq, own_reads' hL.2.2⟩
  have hr := results_ct (P := Tryz.prog) (fn := Tryz.f41) (p := 2) (u := 3) (ty := 108) rfl a'.tmps W B2 108 _ _ _ h2 hB Tryz.underlying108 rfl (by kernel_rfl)
  rw [h3] at hr
  exact hr
set_option maxHeartbeats 1000000 in
theorem w41 {Q : Exit → Act → World → Prop} (W : World) (q : IQ) (B1 B2 KB : Nat) (g : Nat → Value) (A6 : Option Addr) (kts : W.cell? ⟨B1, 6, none⟩ = some (.slice A6 q.ts.length q.c6)) (hlt : 0 < q.ts.length)
    (hk : ∀ a, I41 q B1 B2 KB a → Code.wp Tryz.prog c41t Q a W) : Code.wp Tryz.prog (c41 2) Q ⟨#[.agg q.cells, .pointer (some ⟨B1, 0, none⟩), .pointer (some ⟨B2, 0, none⟩), g 3, .pointer (some ⟨KB, 0, none⟩), g 5, g 6, g 7, g 8, g 9, g 10, g 11, g 12, g 13, g 14, g 15, g 16, g 17, g 18, g 19, g 20, g 21, g 22, g 23, g 24, g 25, g 26, g 27, g 28, g 29, g 30, g 31, g 32, g 33, g 34, g 35, g 36, g 37, g 38, g 39, g 40, g 41, g 42, g 43, g 44, g 45, g 46, g 47, g 48, g 49, g 50, g 51, g 52], []⟩ W := by
  have Hk := Lib.hid hk
  clear hk
  conv => arg 2; whnf
  go_upto_region 3 with (fail)
  exact Hk.out _ ⟨rfl, rfl, rfl, rfl, rfl, rfl⟩
set_option maxHeartbeats 1000000 in
theorem w41n {Q : Exit → Act → World → Prop} (W : World) (q : IQ) (B1 B2 KB : Nat) (g : Nat → Value) (A6 : Option Addr) (kts : W.cell? ⟨B1, 6, none⟩ = some (.slice A6 q.ts.length q.c6)) (hlt : ¬ 0 < q.ts.length)
    (hk : ∀ a, I41 q B1 B2 KB a → Q .normal a W) : Code.wp Tryz.prog (c41 2) Q ⟨#[.agg q.cells, .pointer (some ⟨B1, 0, none⟩), .pointer (some ⟨B2, 0, none⟩), g 3, .pointer (some ⟨KB, 0, none⟩), g 5, g 6, g 7, g 8, g 9, g 10, g 11, g 12, g 13, g 14, g 15, g 16, g 17, g 18, g 19, g 20, g 21, g 22, g 23, g 24, g 25, g 26, g 27, g 28, g 29, g 30, g 31, g 32, g 33, g 34, g 35, g 36, g 37, g 38, g 39, g 40, g 41, g 42, g 43, g 44, g 45, g 46, g 47, g 48, g 49, g 50, g 51, g 52], []⟩ W := by
  have Hk := Lib.hid hk
  clear hk
  conv => arg 2; whnf
  go_upto_region 3 with (fail)
  exact Hk.out _ ⟨rfl, rfl, rfl, rfl, rfl, rfl⟩
/-- A store of one cell as setL. -/
theorem setL_one (w : World) (B i : Nat) (v : Value) : Go.Proofs.YtammjbmfiakbnaaGreatDoor.setL w B i [v] = w.setCell ⟨B, i, none⟩ v := rfl
set_option maxHeartbeats 1000000 in
theorem params_any (w : World) (q : IQ) (hq : q.ok) (hI : q.In w) :
    Calls Tryz.prog 41 #[.agg q.cells] w fun e w' => ∃ A1 c1 A2 c2 rs, e = .returned (.tuple #[.agg (pAgg q.qp A1 q.vals.length c1 A2 c2), .bool true]) ∧ Below w.heap.size w w' ∧ ZRow w' A1 rs ∧ RQ w' rs (q.vals.map qv) ∧ ReadsInt w' .u8 A2 q.paging.length q.paging := by
  refine p41_1 w q hq hI fun a W KB A1 c1 A2 c2 rs hI41 hF => ?_
  obtain ⟨hbe, hKB, hB1, hB2, hlt, hV, hP⟩ := hF
  have hL : L41 w q A1 c1 A2 c2 rs W := ⟨hbe, hV, hP⟩
  have he1 : (q.cons == wrap64 q.cons) = true := by have h1 := hq.1; have h2 := hq.2.1; simp [wrap64]; omega
  have he2 : (q.serial == wrap64 q.serial) = true := by have h1 := hq.2.2.2.2.2.2.2.1; have h2 := hq.2.2.2.2.2.2.2.2.1; simp [wrap64]; omega
  have hle : decide ((q.ts.length : Int) ≤ 1) = true := by have h1 := hq.2.2.2.2.2.2.2.2.2; simp; omega
  have kts : W.cell? ⟨w.heap.size, 6, none⟩ = some (.slice q.A6 q.ts.length q.c6) := (cell_of_row _ _ 6 _ _ _ hB1).trans rfl
  refine wp_seq ?_
  by_cases hts : 0 < q.ts.length
  · obtain ⟨ad6, hA6, h66⟩ := (Kd.reads_of_C (d := (0 : Int)) hI.2.2).2.2 hts
    have h60 := h66 0 hts
    have had : ad6.add 0 = ad6 := by obtain ⟨b, o, x⟩ := ad6; rfl
    rw [had] at h60
    have hc6 : W.cell? ad6 = some (.int .i64 (q.ts.getD 0 0)) := pw_cell_below hbe h60
    have hlt6 : ad6.block < w.heap.size := World.block_lt_of_cell? w _ h60
    have hK7 : (W.setCell ⟨KB, 6, none⟩ (.bool true)).heap[KB]? = some (.cells (kcells q A1 c1 A2 c2 true 0) 108 (0, 0)) := (blk_set hKB 6 (.bool true)).trans rfl
    have hL2 := hL.setL hKB (by omega) [.bool true] 6
    have hL3 := hL2.setL (i := 7) hK7 (by omega) [.int .i64 (q.ts.getD 0 0)]
    have hK8 := (blk_set hK7 7 (.int .i64 (q.ts.getD 0 0))).trans rfl
    have hb1 : (W.setCell ⟨KB, 6, none⟩ (.bool true)).heap[w.heap.size]? = some (.cells q.cells 27 (0, 0)) := setL_far (by omega) [.bool true] W 6 hB1
    have hb2 : (W.setCell ⟨KB, 6, none⟩ (.bool true)).heap[w.heap.size + 1]? = some (.cells zero108 108 (0, 0)) := setL_far (by omega) [.bool true] W 6 hB2
    have hb1' := setL_far (B := KB) (g := w.heap.size) (by omega) [.int .i64 (q.ts.getD 0 0)] _ 7 hb1
    have hb2' := setL_far (B := KB) (g := w.heap.size + 1) (by omega) [.int .i64 (q.ts.getD 0 0)] _ 7 hb2
    rw [hA6] at kts
    have hS5 : Hid ((W.setCell ⟨KB, 6, none⟩ (.bool true)).cell? ⟨w.heap.size, 6, none⟩ = some (.slice (some ad6) q.ts.length q.c6) ∧ (W.setCell ⟨KB, 6, none⟩ (.bool true)).cell? ad6 = some (.int .i64 (q.ts.getD 0 0))) := Lib.hid ⟨(cell_of_row _ _ 6 _ _ _ hb1).trans (by rw [← hA6]; rfl), (cell_far (p := ⟨KB, 6, none⟩) (by simp; omega) _).trans hc6⟩
    obtain ⟨g, rfl⟩ := hI41.open_
    refine w41 W q _ _ KB g _ kts hts fun ax hx => ?_
    obtain ⟨gx, rfl⟩ := hx.open_
    refine r41t W q _ _ KB A1 A2 c1 c2 ad6 _ gx (Lib.hid hKB) (Lib.hid ⟨kts, hc6⟩) hS5 hts fun a' hI' => ?_
    refine wp_seq ?_
    obtain ⟨g', rfl⟩ := hI'.open_
    refine r41 _ q _ _ KB A1 A2 c1 c2 true _ _ (Lib.hid (blk_drew hK8)) (Lib.hid (blk_drew hb1')) (Lib.hid (blk_drew hb2')) (Lib.hid (by omega)) (Lib.hid (by omega)) he1 he2 hle fun a'' hd h2 h3 => ?_
    refine p41_end (h := true) ((hL3.drew.setL (blk_drew hb2') (by omega) _ 0).drew) ?_ hd h2 h3 (by simp [hts]) rfl
    refine blk_drew ((setL_at _ _ 0 _ (blk_drew hb2')).trans ?_)
    simp only [setC, Nat.zero_add, Nat.reduceAdd, List.setIfInBounds_toArray, List.set_cons_zero, List.set_cons_succ]
  · have hts0 : q.ts.length = 0 := by omega
    obtain ⟨g, rfl⟩ := hI41.open_
    refine w41n W q _ _ KB g _ kts hts fun ax hx => ?_
    obtain ⟨gx, rfl⟩ := hx.open_
    refine wp_seq ?_
    refine r41 _ q _ _ KB A1 A2 c1 c2 false 0 _ (Lib.hid hKB) (Lib.hid hB1) (Lib.hid hB2) (Lib.hid (by omega)) (Lib.hid (by omega)) he1 he2 hle fun a'' hd h2 h3 => ?_
    refine p41_end (h := false) (t := 0) ((hL.setL hB2 (by omega) _ 0).drew) ?_ hd h2 h3 (by simp [hts0]) (by rw [List.getD_eq_getElem?_getD, List.getElem?_eq_none (by omega)]; rfl)
    refine blk_drew ((setL_at _ _ 0 _ hB2).trans ?_)
    simp only [setC, Nat.zero_add, Nat.reduceAdd, List.setIfInBounds_toArray, List.set_cons_zero, List.set_cons_succ]
theorem info200 : (Tryz.prog.info? 200).map (fun i => (i.zero, i.size, i.bytes)) = some (some (.agg #[.slice none 0 0, .string ⟨#[]⟩, .slice none 0 0]), 3, 64) := by kernel_rfl
def ZS.z (z : ZS) : List Value := [.slice z.Ai z.mi z.ci, .string z.st, .slice z.Av z.rs.length z.cv]
/-- What a statement comes to. -/
def sv (x : S56) : SV := ⟨x.f1, x.f0, x.f2.map qv⟩
def SOwn (W : World) (base : Nat) (z : ZS) (x : S56) : Prop := z.mi = x.f1.length ∧ W.ownsRow base 5 1 (.slice z.Ai z.mi z.ci) x.f1.length (nums .u8 x.f1) ∧ z.st = x.f0 ∧ VRow W base (.slice z.Av z.rs.length z.cv) z.rs (x.f2.map qv)
theorem SOwn.map {W W1 : World} {base base' : Nat} {z : ZS} {x : S56} (h : SOwn W base z x) (hm : ∀ e size v n cs, e = 5 ∨ e = 268 → W.ownsRow base e size v n cs → W1.ownsRow base' e size v n cs) : SOwn W1 base' z x :=
  ⟨h.1, hm _ _ _ _ _ (.inl rfl) h.2.1, h.2.2.1, h.2.2.2.map hm⟩
/-- Statements in a row of their own. -/
def SOwns (W : World) (base : Nat) (zs : List ZS) (xs : List S56) : Prop := ∀ (j : Nat) (z : ZS), zs[j]? = some z → ∃ x, xs[j]? = some x ∧ SOwn W base z x
theorem SOwns.map {W W1 : World} {base base' : Nat} {zs : List ZS} {xs : List S56} (h : SOwns W base zs xs) (hm : ∀ e size v n cs, e = 5 ∨ e = 268 → W.ownsRow base e size v n cs → W1.ownsRow base' e size v n cs) : SOwns W1 base' zs xs :=
  fun j z hz => (h j z hz).imp fun x hx => ⟨hx.1, hx.2.map hm⟩
theorem SOwns.below_ {W W1 : World} {base : Nat} {zs : List ZS} {xs : List S56} (h : SOwns W base zs xs) (hb : Below W.heap.size W W1) : SOwns W1 base zs xs := h.map fun _ _ _ _ _ _ ho => pw_own_below ho hb
theorem SOwns.zsrow {W : World} {base m c : Nat} {A : Option Addr} {zs : List ZS} {xs : List S56} (h : SOwns W base zs xs) (hrow : W.ownsRow base 200 3 (.slice A m c) zs.length (zs.flatMap ZS.z)) (hd : ∀ x ∈ xs, x.f2.length ≤ 20) : ZSRow W A zs := by
  intro h0
  obtain ⟨_, g, hA, _, hc⟩ := own_cells hrow h0
  refine ⟨g, hA, fun j z hz => ?_⟩
  have hf := fun k (hk : k < 3) => flat_at ZS.z 3 (fun _ => rfl) zs j _ k hz hk
  obtain ⟨x, hx, h1, h2, h3, h4⟩ := h j z hz
  refine ⟨hc _ _ ((hf 0 (by omega)).trans rfl), hc _ _ ((hf 1 (by omega)).trans rfl), hc _ _ ((hf 2 (by omega)).trans rfl), h4.zrow, ?_⟩
  rw [h4.2.1, List.length_map]
  exact hd x (List.mem_of_getElem? hx)
theorem SOwns.rsq {W : World} {base : Nat} {zs : List ZS} {xs : List S56} (h : SOwns W base zs xs) (hl : zs.length = xs.length) : RSQ W zs (xs.map sv) := by
  refine ⟨by rw [hl, List.length_map], fun j z y hz hy => ?_⟩
  obtain ⟨x, hx, h1, h2, h3, h4⟩ := h j z hz
  rw [List.getElem?_map, hx] at hy
  obtain rfl : sv x = y := by simpa using hy
  rw [h1] at h2
  refine ⟨h1, ?_, h3, h4.rq⟩
  rw [h1]
  exact own_reads' h2
set_option maxHeartbeats 4000000 in
theorem statements_any (w : World) (A : Option Addr) (c : Nat) (xs : List S56) (hC : Kd.C k56 w A xs.length xs) (hN : xs.length ≤ 10) (hd : ∀ x ∈ xs, x.f1.length ≤ 100 ∧ x.f2.length ≤ 20 ∧ ∀ y ∈ x.f2, y.f3.length ≤ 100) :
    Calls Tryz.prog 50 #[.slice A xs.length c] w fun e w' => ∃ A' c' zs, e = .returned (.slice A' zs.length c') ∧ Below w.heap.size w w' ∧ ZSRow w' A' zs ∧ RSQ w' zs (xs.map sv) := by
  have HC := Lib.hid hC
  have Hd := Lib.hid hd
  clear hC hd
  go_enter Tryz.func50, Tryz.ntmps50
  go_wp2
  go_loopw [3, 8] (fun v3 v8 W => ∃ i : Nat, v8 = .int .i64 i ∧ i ≤ xs.length ∧ Hid (∃ zs : List ZS, zs.length = i ∧ Below w.heap.size w W ∧ W.ownsRow w.heap.size 200 3 v3 i (zs.flatMap ZS.z) ∧ SOwns W w.heap.size zs xs)) (fun _ v8 _ => xs.length - (intOf v8).toNat)
  case atStart => exact ⟨0, rfl, by omega, Lib.hid ⟨[], rfl, Below.refl _ _, own_nil _ _ _ _, fun j r hr => by simp at hr⟩⟩
  case round =>
    obtain ⟨i, rfl, hi, HI⟩ := hrel
    obtain ⟨zs, hzs, hbe, hrow, hown⟩ := HI.out
    clear HI
    have Hzs := Lib.hid hzs
    have HBe1 := Lib.hid hbe
    have HRow1 := Lib.hid hrow
    have HSS1 := Lib.hid hown
    clear hzs hbe hrow hown
    by_cases hlt : i < xs.length
    · have hx : xs[i]? = some xs[i] := List.getElem?_eq_getElem hlt
      obtain ⟨ad, Ai, ci, Av, cv, rfl, hx0, hx1, hx2, hl1, hi1, hl2, hi2⟩ := at_T56 (Kd.C_below HC.out HBe1.out) (i : Int) (by omega) (by omega)
      have hrd : rd_T56 xs (i : Int) = xs[i] := by simp [rd_T56, List.getD_eq_getElem?_getD, hx]
      rw [hrd] at hx0 hx1 hx2 hl1 hi1 hl2 hi2
      rw [Int.toNat_natCast] at hx0 hx1 hx2
      have hdx := Hd.out _ (List.getElem_mem hlt)
      generalize xs[i] = x at *
      have Hx := Lib.hid hx
      clear hx hrd
      obtain ⟨st, id, vs⟩ := x
      simp only at hx0 hx1 hx2 hl1 hi1 hl2 hi2 hdx
      obtain ⟨hdi, hN2, hdv⟩ := hdx
      have Hid1 := Lib.hid (ints_of hi1)
      have Hvs := Lib.hid hi2
      have Hdv := Lib.hid hdv
      clear hi1 hi2 hdv
      generalize hcs : zs.flatMap ZS.z = cs at *
      have Hcs := Lib.hid hcs
      clear hcs
      have HK := Lib.hid (heap_alloc_new wr (Obj.cells #[.string st, .slice Ai id.length ci, .slice Av vs.length cv] 56))
      have HRow := Lib.hid (HRow1.out.alloc (Obj.cells #[.string st, .slice Ai id.length ci, .slice Av vs.length cv] 56))
      have HBq := Lib.hid (below_alloc (Below.refl wr.heap.size wr) (Obj.cells #[.string st, .slice Ai id.length ci, .slice Av vs.length cv] 56))
      have HSS := Lib.hid (HSS1.out.below_ HBq.out)
      have HBe := Lib.hid (below_then HBe1.out HBe1.out.size HBq.out)
      have Hid2 := Lib.hid (Hid1.out.below HBq.out)
      have Hvs2 := Lib.hid (Kd.C_below Hvs.out HBq.out)
      clear HRow1 HSS1 HBe1 Hid1 Hvs HBq
      go_upto_region 5 with (fail)
      clear hx0 hx1 hx2
      generalize wr.alloc _ = wq at *
      generalize wr.heap.size = K at *
      have HBq := Lib.hid (Below.refl wq.heap.size wq)
      refine start_ (n := 13) (S := fun w' => w'.cell? ⟨K, 0, none⟩ = some (.string st) ∧ w'.cell? ⟨K, 1, none⟩ = some (.slice Ai id.length ci) ∧ w'.cell? ⟨K, 2, none⟩ = some (.slice Av vs.length cv)) (ds := [11]) #[false, false, false, false, false, false, false, false, false, false, false, false, false] (by kernel_rfl) rfl rfl ⟨((cell_of_row _ _ 0 _ _ _ (blk_drew HK.out)).trans rfl), ((cell_of_row _ _ 1 _ _ _ (blk_drew HK.out)).trans rfl), ((cell_of_row _ _ 2 _ _ _ (blk_drew HK.out)).trans rfl)⟩ (fun hHeld => ?_)
      refine e_o 0 ?_
      refine e_o 1 ?_
      refine e_o 4 ?_
      refine e_o 6 ?_
      refine e_t 2 hHeld ?_
      refine e_t 5 hHeld ?_
      refine e_t 7 hHeld ?_
      refine one_ (i := 3) (N := some 15) #[true, true, true, true, true, true, true, true, false, false, false, false, false] rfl rfl (by kernel_rfl) (by decide) (fun K hK => ?_)
      refine app_step (E := _) rfl (.const (.slice none 0 0)) (.tmp 14) 23 23 rfl (.slice none 0 0) _ rfl rfl (ap_row2 23 _ Tryz.underlying23 _ [] id Ai _ ci (own_nil _ wq.drew.heap.size _ _) (Hid2.out.below HBq.out.drew) (Nat.le_refl _) (by simp only [List.length_nil]; omega)) ?_
      rintro vi x1 ⟨⟨howni, hgi⟩, _⟩
      have hb1 := grown_nil hgi rfl
      rw [List.nil_append] at howni
      obtain ⟨Ai2, mi2, ci2, rfl⟩ := own_form howni
      have hm2 : mi2 = id.length := own_len howni
      subst hm2
      have HI1 : Hid (x1.ownsRow w.heap.size 5 1 (.slice Ai2 id.length ci2) id.length (nums .u8 id)) := Lib.hid (own_weaken howni HBe.out.drew.size)
      have HK1 := Lib.hid (blk_below (blk_drew HK.out) hb1)
      have HR1 := Lib.hid (pw_own_below HRow.out.drew hb1)
      have HS1 := Lib.hid (HSS.out.below_ (below_then (Below.refl _ _).drew (Nat.le_refl _) hb1))
      have HBe1 := Lib.hid (below_then HBe.out.drew HBe.out.size hb1)
      have HBq1 := Lib.hid (below_then HBq.out.drew HBq.out.size hb1)
      clear hb1 howni hgi
      refine hK.out _ _ ⟨((cell_of_row _ _ 0 _ _ _ HK1.out).trans rfl), ((cell_of_row _ _ 1 _ _ _ HK1.out).trans rfl), ((cell_of_row _ _ 2 _ _ _ HK1.out).trans rfl)⟩ (fun hHeld => ?_)
      clear hK K
      refine norm_ (a' := ?_) ?_ ?_
      rotate_left
      · show Act.put _ (some 15) _ = _
        simp only [Act.put, List.setIfInBounds_toArray, List.set_cons_zero, List.set_cons_succ, i64_w, i32_w]
        rfl
      refine one_ (i := 8) (N := some 20) #[true, true, true, true, true, true, true, true, true, false, false, false, false] rfl rfl (by kernel_rfl) (by decide) (fun K hK => ?_)
      refine goes_ Tryz.func81 (by kernel_rfl) rfl #[.slice Av vs.length cv] (by rfl) rfl rfl (by simp only [List.map_toArray, List.map_cons, List.map_nil]; rfl) ?_
      with_reducible refine (values_any _ Av cv vs (Kd.C_below Hvs2.out HBq1.out) hN2 Hdv.out).mono ?_
      rintro e x2 ⟨Av2, cv2, rs, rfl, hb2, hz⟩
      refine ⟨_, rfl, ?_⟩
      have HV2 : Hid (VRow x2 w.heap.size (.slice Av2 vs.length cv2) rs (vs.map qv)) := Lib.hid (hz.lower HBe1.out.size)
      have HI2 := Lib.hid (pw_own_below HI1.out hb2)
      have HK2 := Lib.hid (blk_below HK1.out hb2)
      have HR2 := Lib.hid (pw_own_below HR1.out hb2)
      have HS2 := Lib.hid (HS1.out.below_ hb2)
      have HBe2 := Lib.hid (below_then HBe1.out HBe1.out.size hb2)
      clear hb2 hz
      refine hK.out _ _ ⟨((cell_of_row _ _ 0 _ _ _ HK2.out).trans rfl), ((cell_of_row _ _ 1 _ _ _ HK2.out).trans rfl), ((cell_of_row _ _ 2 _ _ _ HK2.out).trans rfl)⟩ (fun hHeld => ?_)
      clear hK K
      refine norm_ (a' := ?_) ?_ ?_
      rotate_left
      · show Act.put _ (some 20) _ = _
        simp only [Act.put, List.setIfInBounds_toArray, List.set_cons_zero, List.set_cons_succ, i64_w, i32_w]
        rfl
      refine e_o 9 ?_
      refine one_ (i := 10) (N := some 22) #[true, true, true, true, true, true, true, true, true, true, true, false, false] rfl rfl (by kernel_rfl) (by decide) (fun K hK => ?_)
      refine value_ (w1 := ?_) (v := ?_) (by rfl) rfl ?_ ?_
      rotate_left 2
      · go_simp
        constructor
        · rfl
        · rfl
      refine hK.out _ _ ⟨((cell_of_row _ _ 0 _ _ _ (blk_alloc HK2.out _)).trans rfl), ((cell_of_row _ _ 1 _ _ _ (blk_alloc HK2.out _)).trans rfl), ((cell_of_row _ _ 2 _ _ _ (blk_alloc HK2.out _)).trans rfl)⟩ (fun hHeld => ?_)
      clear hK K
      refine norm_ (a' := ?_) ?_ ?_
      rotate_left
      · show Act.put _ (some 22) _ = _
        simp only [Act.put, List.setIfInBounds_toArray, List.set_cons_zero, List.set_cons_succ, i64_w, i32_w]
        rfl
      refine last_ (i := 11) (N := some 23) #[true, true, true, true, true, true, true, true, true, true, true, true, false] rfl rfl (by kernel_rfl) (by decide) (fun K hK => ?_)
      refine app_step (E := _) rfl (.tmp 12) (.tmp 22) 121 121 rfl u3 _ rfl rfl (ap_one 121 _ 200 3 64 _ Tryz.underlying121 info200 rfl (by omega) (by omega) u3 i cs x2.heap.size 1 (HR2.out.alloc _) (heap_alloc_new _ _) rfl (by simp [Value.oneCell']) (by omega) (HBe2.out.alloc HBe2.out.size _).size) ?_
      rintro v4 x4 ⟨hown, hgrow⟩
      refine hK.out _ _ ?_
      clear hK K
      refine norm_ (a' := ?_) ?_ ?_
      rotate_left
      · show Act.put _ (some 23) _ = _
        simp only [Act.put, List.setIfInBounds_toArray, List.set_cons_zero, List.set_cons_succ, i64_w, i32_w]
        rfl
      refine e_o 12 ?_
      refine done_ (by kernel_rfl) ?_
      have hM : Hid (∀ e size v n cs, e = 5 ∨ e = 268 → x2.ownsRow w.heap.size e size v n cs → x4.ownsRow w.heap.size e size v n cs) := Lib.hid (fun e size v n cs he h => own_other (h.alloc _) hgrow (own_type_ne h HR2.out (by rcases he with rfl | rfl <;> decide)))
      have hBe4 := Lib.hid (pw_below_grown (HBe2.out.alloc HBe2.out.size _) _ (HBe2.out.alloc HBe2.out.size _).size hgrow (fun k hk => own_base HR2.out k hk))
      have HS4 := Lib.hid (HS2.out.map hM.out)
      have HV4 := Lib.hid (HV2.out.map hM.out)
      have HI4 := Lib.hid (hM.out _ _ _ _ _ (.inl rfl) HI2.out)
      have Hown := Lib.hid hown
      clear hgrow hown hHeld HS2 HV2 HI2 HR2 HBe2 HK2 HK1 HI1 HS1 HR1 HBe1 HBq1 HBq HRow HSS HBe hM Hid2 Hvs2 HK
      go_wp2
      go_roundw
      case rel =>
        refine ⟨i + 1, by go_num, by omega, Lib.hid ⟨zs ++ [⟨Ai2, id.length, ci2, st, Av2, cv2, rs⟩], by simp [Hzs.out], hBe4.out, ?_, ?_⟩⟩
        · have h1 := Hown.out
          have h2 := HV4.out.2.1
          rw [List.length_map] at h2
          rw [List.flatMap_append, Hcs.out]
          simpa [ZS.z, h2] using h1
        · intro j r hr
          by_cases hj : j < zs.length
          · rw [List.getElem?_append_left hj] at hr
            exact HS4.out j r hr
          · rw [List.getElem?_append_right (by omega)] at hr
            have hj0 : j - zs.length = 0 := by
              rcases Nat.eq_zero_or_pos (j - zs.length) with h | h
              · exact h
              · rw [List.getElem?_eq_none (by simp; omega)] at hr; cases hr
            rw [hj0] at hr
            obtain rfl : (⟨Ai2, id.length, ci2, st, Av2, cv2, rs⟩ : ZS) = r := by simpa using hr
            have hji : j = i := by have := Hzs.out; omega
            subst hji
            have h2 := HV4.out.2.1
            rw [List.length_map] at h2
            exact ⟨_, Hx.out, rfl, HI4.out, rfl, by simp only [h2]; exact HV4.out⟩
      case measure => simp [intOf]; omega
    · have hii : i = xs.length := by omega
      obtain ⟨A', c', hv⟩ := own_slice HRow1.out
      subst hv
      go_wp2
      go_ret
      have hz := Hzs.out
      refine ⟨A', c', zs, by rw [hz]; rfl, HBe1.out, HSS1.out.zsrow (by rw [hz]; exact HRow1.out) (fun x hx => (Hd.out x hx).2.1), HSS1.out.rsq (by omega)⟩
end Go.Proofs.YtammjbmfiakbnaaGreatDoor
