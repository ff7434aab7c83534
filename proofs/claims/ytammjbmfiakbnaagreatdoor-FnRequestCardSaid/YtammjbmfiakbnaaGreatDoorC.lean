/-
  The statement's copy of a request for the reference: values that are bound. The statement's copy of a request for the reference. The statement's copy of a request for the reference, whole. The statement's copy of a request for the reference: the statements; the end. The statement's copy of a request for the reference, whole.
-/
import Derived.Test.YtammjbmfiakbnaaGreatDoorA5
namespace Go.Proofs.YtammjbmfiakbnaaGreatDoor
set_option maxHeartbeats 2000000
set_option maxRecDepth 100000
set_option linter.unusedSimpArgs false
set_option linter.unusedVariables false
open Go.RowKit Go.Proofs.YtammjbmfiakbnaaGreatDoorW.PrintWords Go.Proofs.YtammjbmfiakbnaaGreatDoorW.PrintLast Go.Proofs.YtammjbmfiakbnaaGreatDoorW.PrintMore
open Go.Proofs.YtammjbmfiakbnaaGreatDoor.PFnRequest
theorem lparams_any (w0 w : World) (A : Option Addr) (c : Nat) (xs : List S93) (hb0 : Below w0.heap.size w0 w) (hC : Kd.C k93 w0 A xs.length xs) (hN : xs.length ≤ 2147483647) :
    Calls Tryz.prog 14 #[.slice A xs.length c] w fun e w' => ∃ A' c', e = .returned (.slice A' xs.length c') ∧ Below w.heap.size w w' ∧ xs.length ≤ c' ∧ OwnRow (fun x cs => k87.K w0 x cs) 87 4 w' w.heap.size (.slice A' xs.length c') (xs.map c87) := by
  have HC := Lib.hid hC
  have HB0 := Lib.hid hb0
  clear hC hb0
  go_enter Tryz.func14, Tryz.ntmps14
  go_wp2
  go_loopw [3, 8] (fun v3 v8 W => ∃ i : Nat, v8 = .int .i64 i ∧ i ≤ xs.length ∧ Hid (Below w.heap.size w W ∧ OwnRow (fun x cs => k87.K w0 x cs) 87 4 W w.heap.size v3 ((xs.take i).map c87))) (fun _ v8 _ => xs.length - (intOf v8).toNat)
  case atStart => exact ⟨0, rfl, by omega, Lib.hid ⟨Below.refl _ _, OwnRow.none_ _ _ _ _ _⟩⟩
  case round =>
    obtain ⟨i, rfl, hi, HI⟩ := hrel
    by_cases hlt : i < xs.length
    · have hx : xs[i]? = some xs[i] := List.getElem?_eq_getElem hlt
      obtain ⟨ad, A3, c3, rfl, hx0, hx1, hx2, hx3, hl3, hi3⟩ := at_T93 HC.out (i : Int) (by omega) (by omega)
      have hrd : rd_T93 xs (i : Int) = xs[i] := by simp [rd_T93, List.getD_eq_getElem?_getD, hx]
      rw [hrd] at hx0 hx1 hx2 hx3 hl3 hi3
      rw [Int.toNat_natCast] at hx0 hx1 hx2 hx3
      have kx0 := pw_cell_below (below_then HB0.out HB0.out.size HI.out.1) hx0
      have kx1 := pw_cell_below (below_then HB0.out HB0.out.size HI.out.1) hx1
      have kx2 := pw_cell_below (below_then HB0.out HB0.out.size HI.out.1) hx2
      have kx3 := pw_cell_below (below_then HB0.out HB0.out.size HI.out.1) hx3
      have Htk := Lib.hid (show (xs.take (i + 1)).map c87 = (xs.take i).map c87 ++ [c87 xs[i]] by rw [List.take_succ_eq_append_getElem hlt, List.map_append]; rfl)
      have hmk := k87_mk w0 (c87 xs[i]) hl3 hi3
      have Hlen := Lib.hid (show ((xs.take i).map c87).length = i by rw [List.length_map, List.length_take]; omega)
      generalize (xs.take i).map c87 = ps at *
      generalize xs[i] = x at *
      clear hx hrd hx0 hx1 hx2 hx3 hl3 hi3
      obtain ⟨xn, xun, xnull, xd⟩ := x
      simp only at kx0 kx1 kx2 kx3
      have Hmk := Lib.hid hmk
      have HBw := Lib.hid (below_alloc (Below.refl wr.heap.size wr) (.cells #[.string xn, .bool xun, .bool xnull, .slice A3 xd.length c3] 93))
      have HO := Lib.hid (HI.out.2.below HBw.out)
      have HBe := Lib.hid (below_then HI.out.1 HI.out.1.size HBw.out)
      clear hmk
      go_wp2_with (at_builtin; refine OwnRow.append (w0 := w) (R := fun x cs => k87.K w0 x cs) w.heap.size rfl (.tmp 12) (.tmp 22) 34 87 _ 4 48 rfl Tryz.underlying34 info87 rfl (by omega) (by omega) u3 ps (c87 ⟨xn, xun, xnull, xd⟩) [.string xn, .bool xun, .bool xnull, .slice A3 xd.length c3] rfl (by simp; rfl) Hmk.out rfl (by simp [Value.oneCell']) HO.out HBe.out HBe.out.size (by rw [Hlen.out]; omega) ?_; intro v1 w1 hown1 hb1 hg1 hat1)
      have HO1 := Lib.hid hown1
      have HB1 := Lib.hid hb1
      clear hown1 hb1 hg1 hat1 kx0 kx1 kx2 kx3
      go_roundw
      case rel => exact ⟨i + 1, by go_num, by omega, Lib.hid ⟨HB1.out, by rw [Htk.out]; exact HO1.out⟩⟩
      case measure => simp [intOf]; omega
    · have hii : i = xs.length := by omega
      subst hii
      rw [List.take_length] at HI
      obtain ⟨A', c', hv, hle⟩ := HI.out.2.slice_
      rw [List.length_map] at hv hle
      subst hv
      go_wp2
      go_ret
      exact ⟨A', c', rfl, HI.out.1, hle, HI.out.2⟩
abbrev zero39 : Array Value := #[.int .i64 0, .slice none 0 0, .string ⟨#[]⟩, .slice none 0 0, .int .i64 0, .bool false, .slice none 0 0, .int .i64 0, .slice none 0 0, .int .i64 0, .slice none 0 0, .slice none 0 0, .int .i64 0, .slice none 0 0, .slice none 0 0]
abbrev PR (w W : World) (base : Nat) (v : Value) (xs : List S93) : Prop := OwnRow (fun x cs => k87.K w x cs) 87 4 W base v (xs.map c87)
/-- A statement in the copy: where its parts lie. -/
structure SC where
  x : S56
  A1 : Option Addr
  c1 : Nat
  A2 : Option Addr
  c2 : Nat
def SC.z (s : SC) : List Value := [.string s.x.f0, .slice s.A1 s.x.f1.length s.c1, .slice s.A2 s.x.f2.length s.c2]
def SC.ok (w W : World) (base : Nat) (s : SC) : Prop := s.x.f1.length ≤ s.c1 ∧ (Kd.int .u8).C w s.A1 s.x.f1.length s.x.f1 ∧ s.x.f2.length ≤ s.c2 ∧ PR w W base (.slice s.A2 s.x.f2.length s.c2) s.x.f2
/-- Statements that have been copied. -/
def SCs (w W : World) (base : Nat) (ss : List SC) (xs : List S56) : Prop := ss.map SC.x = xs ∧ ∀ s ∈ ss, s.ok w W base
theorem SCs.map {w W W1 : World} {base : Nat} {ss : List SC} {xs : List S56} (h : SCs w W base ss xs) (hm : ∀ v ps, OwnRow (fun x cs => k87.K w x cs) 87 4 W base v ps → OwnRow (fun x cs => k87.K w x cs) 87 4 W1 base v ps) : SCs w W1 base ss xs :=
  ⟨h.1, fun s hs => ⟨(h.2 s hs).1, (h.2 s hs).2.1, (h.2 s hs).2.2.1, hm _ _ (h.2 s hs).2.2.2⟩⟩
theorem SCs.C {w W : World} {base n m c : Nat} {A : Option Addr} {ss : List SC} {xs : List S56} (h : SCs w W base ss xs) (hb : Below w.heap.size w W) (hn : n = ss.length) (hmax : n ≤ 9223372036854775807) (ho : W.ownsRow base 58 3 (.slice A m c) n (ss.flatMap SC.z)) : Kd.C k58 W A n (xs.map c58) := by
  refine ⟨by rw [List.length_map, ← h.1, List.length_map, hn], hmax, fun h0 => ?_⟩
  obtain ⟨_, g, rfl, _, hc⟩ := own_cells ho h0
  refine ⟨⟨g, 0, none⟩, rfl, fun j p hj => ?_⟩
  rw [List.getElem?_map, ← h.1, List.getElem?_map] at hj
  obtain ⟨s, hs⟩ : ∃ s, ss[j]? = some s := by
    cases hq : ss[j]? with
    | none => rw [hq] at hj; cases hj
    | some s => exact ⟨s, rfl⟩
  rw [hs] at hj
  obtain rfl : c58 s.x = p := by simpa using hj
  obtain ⟨h1, h2, h3, h4⟩ := h.2 s (List.mem_of_getElem? hs)
  obtain ⟨A', c', hv, hle, hr⟩ := (h4.imp_ fun _ _ hk => k87.K_below hb hk).reads
  rw [List.length_map] at hv
  injection hv with hA _ hcc
  subst hA hcc
  have hz : [Value.string (c58 s.x).f0, .slice s.A1 (c58 s.x).f1.length s.c1, .slice s.A2 (c58 s.x).f2.length s.c2] = s.z := by simp [SC.z, c58]
  have hk := k58_mk W (c58 s.x) (A1 := s.A1) (c1 := s.c1) h1 (Kd.C_below h2 hb) (A2 := s.A2) (c2 := s.c2) (by simpa [c58] using h3) hr
  rw [hz] at hk
  refine ⟨s.z, rfl, hk, fun i u hu => ?_⟩
  have hi : i < 3 := by
    rcases Nat.lt_or_ge i 3 with h | h
    · exact h
    · rw [List.getElem?_eq_none (by simpa [SC.z] using h)] at hu; cases hu
  rw [show k58.sz = 3 from rfl, add_plain]
  exact hc _ _ ((flat_at SC.z 3 (fun _ => rfl) ss j s i hs hi).trans hu)
theorem PR.other {w W W1 : World} {base : Nat} {v : Value} {ps : List S87} {b e size n : Nat} {u : Value} {cs : List Value} (h : OwnRow (fun x cs => k87.K w x cs) 87 4 W base v ps) (hg : W.grownBy W1 u.ownBlock) (ho : W.ownsRow b e size u n cs) (hne : e ≠ 87) : OwnRow (fun x cs => k87.K w x cs) 87 4 W1 base v ps := by
  obtain ⟨inner, h1, h2⟩ := h
  exact ⟨inner, own_other h1 hg (own_type_ne h1 ho (Ne.symm hne)), h2⟩
/-- The copy's cells. -/
abbrev ocells (r : IR) (vo : Value) (A : Option Addr) (c : Nat) (vs : Value) : Array Value := #[.int .i64 r.op, vo, .string r.text, .slice r.Ai r.id.length r.ci, .int .i64 r.q.cons, .bool r.q.skip, .slice A r.q.vals.length c, .int .i64 r.q.page, .slice r.q.A4 r.q.paging.length r.q.c4, .int .i64 r.q.serial, .slice r.q.A6 r.q.ts.length r.q.c6, .slice r.Ae r.ev.length r.ce, .int .i64 r.batch, vs, .slice r.Ad r.data.length r.cd]
/-- What is known of memory behind the copy's first statement. -/
def F5 (w : World) (r : IR) (O : Nat) (A : Option Addr) (c : Nat) (W : World) : Prop :=
  Below w.heap.size w W ∧ W.heap[O]? = some (.cells (ocells r (.slice none 0 0) A c (.slice none 0 0)) 39 (0, 0)) ∧ W.heap[w.heap.size]? = some (.cells r.cells 31 (0, 0)) ∧ W.heap[w.heap.size + 1]? = some (.cells zero39 39 (0, 0)) ∧ w.heap.size + 1 < O ∧ PR w W w.heap.size (.slice A r.q.vals.length c) r.q.vals ∧ r.q.vals.length ≤ c
noncomputable def c5 (k : Nat) : Code := nth k (Tryz.f5.body.getD .skip)
noncomputable def t5 (k : Nat) : Code := tl k (Tryz.f5.body.getD .skip)
/-- The slots that are known. -/
def I5 (B1 B2 O : Nat) (a : Act) : Prop := a.defers = [] ∧ a.tmps.size = 84 ∧ a.tmps.getD 1 undef = .pointer (some ⟨B1, 0, none⟩) ∧ a.tmps.getD 2 undef = .pointer (some ⟨B2, 0, none⟩) ∧ a.tmps.getD 3 undef = .pointer (some ⟨O, 0, none⟩)
set_option maxHeartbeats 4000000 in
theorem p5_1 {R : Ending → World → Prop} (w : World) (r : IR) (hI : r.In w) (h2 : r.q.vals.length ≤ 2147483647)
    (hk : ∀ a W O A c, I5 w.heap.size (w.heap.size + 1) O a → F5 w r O A c W → Code.wp Tryz.prog ((c5 2).seq ((c5 3).seq ((c5 4).seq (t5 5)))) (bodyPost Tryz.prog Tryz.f5 R) a W) :
    Calls Tryz.prog 5 #[.agg r.cells] w R := by
  have Hkk := Lib.hid hk
  have HV0 := Lib.hid hI.2.2.1.1
  clear hk hI
  go_enter Tryz.func5, Tryz.ntmps5
  go_upto_region 1 with (fail)
  have HBA := Lib.hid (below_alloc (below_alloc (Below.refl w.heap.size w) (Obj.cells r.cells 31)) (Obj.cells zero39 39))
  have HN1 := Lib.hid (blk_alloc (heap_alloc_new w (Obj.cells r.cells 31)) (Obj.cells zero39 39))
  have HN2 := Lib.hid (heap_alloc_new2 w (Obj.cells r.cells 31) (Obj.cells zero39 39))
  have Hk : Hid (∀ i v, r.cells[i]? = some v → ((w.alloc (Obj.cells r.cells 31)).alloc (Obj.cells zero39 39)).cell? ⟨w.heap.size, i, none⟩ = some v) := Lib.hid (fun i v h => (cell_of_row _ _ i _ _ _ HN1.out).trans h)
  generalize (w.alloc _).alloc _ = w0 at *
  have HBe0 := Lib.hid ((Below.refl w0.heap.size w0).drew)
  refine start_ (n := 38) (S := fun w' => w'.cell? ⟨w.heap.size, 0, none⟩ = some (.int .i64 r.op) ∧ w'.cell? ⟨w.heap.size, 2, none⟩ = some (.string r.text) ∧ w'.cell? ⟨w.heap.size, 3, none⟩ = some (.slice r.Ai r.id.length r.ci) ∧ w'.cell? ⟨w.heap.size, 4, none⟩ = some (.int .i64 r.q.cons) ∧ w'.cell? ⟨w.heap.size, 5, none⟩ = some (.bool r.q.skip) ∧ w'.cell? ⟨w.heap.size, 6, none⟩ = some (.slice r.q.A r.q.vals.length r.q.c) ∧ w'.cell? ⟨w.heap.size, 7, none⟩ = some (.int .i64 r.q.page) ∧ w'.cell? ⟨w.heap.size, 8, none⟩ = some (.slice r.q.A4 r.q.paging.length r.q.c4) ∧ w'.cell? ⟨w.heap.size, 9, none⟩ = some (.int .i64 r.q.serial) ∧ w'.cell? ⟨w.heap.size, 10, none⟩ = some (.slice r.q.A6 r.q.ts.length r.q.c6) ∧ w'.cell? ⟨w.heap.size, 11, none⟩ = some (.slice r.Ae r.ev.length r.ce) ∧ w'.cell? ⟨w.heap.size, 12, none⟩ = some (.int .i64 r.batch) ∧ w'.cell? ⟨w.heap.size, 14, none⟩ = some (.slice r.Ad r.data.length r.cd)) (ds := [37]) #[false, false, false, false, false, false, false, false, false, false, false, false, false, false, false, false, false, false, false, false, false, false, false, false, false, false, false, false, false, false, false, false, false, false, false, false, false, false] (by kernel_rfl) rfl rfl ⟨pw_cell_below HBe0.out (Hk.out 0 _ rfl), pw_cell_below HBe0.out (Hk.out 2 _ rfl), pw_cell_below HBe0.out (Hk.out 3 _ rfl), pw_cell_below HBe0.out (Hk.out 4 _ rfl), pw_cell_below HBe0.out (Hk.out 5 _ rfl), pw_cell_below HBe0.out (Hk.out 6 _ rfl), pw_cell_below HBe0.out (Hk.out 7 _ rfl), pw_cell_below HBe0.out (Hk.out 8 _ rfl), pw_cell_below HBe0.out (Hk.out 9 _ rfl), pw_cell_below HBe0.out (Hk.out 10 _ rfl), pw_cell_below HBe0.out (Hk.out 11 _ rfl), pw_cell_below HBe0.out (Hk.out 12 _ rfl), pw_cell_below HBe0.out (Hk.out 14 _ rfl)⟩ (fun hHeld => ?_)
  refine e_o 0 ?_
  refine e_o 2 ?_
  refine e_o 4 ?_
  refine e_o 6 ?_
  refine e_o 8 ?_
  refine e_o 10 ?_
  refine e_o 12 ?_
  refine e_o 13 ?_
  refine e_o 15 ?_
  refine e_o 16 ?_
  refine e_o 18 ?_
  refine e_o 19 ?_
  refine e_o 22 ?_
  refine e_o 23 ?_
  refine e_o 25 ?_
  refine e_o 26 ?_
  refine e_o 28 ?_
  refine e_o 29 ?_
  refine e_o 31 ?_
  refine e_o 32 ?_
  refine e_t 1 hHeld ?_
  refine e_t 3 hHeld ?_
  refine e_t 5 hHeld ?_
  refine e_t 7 hHeld ?_
  refine e_t 9 hHeld ?_
  refine e_t 11 hHeld ?_
  refine e_t 14 hHeld ?_
  refine e_t 17 hHeld ?_
  refine e_t 20 hHeld ?_
  refine e_t 24 hHeld ?_
  refine e_t 27 hHeld ?_
  refine e_t 30 hHeld ?_
  refine e_t 33 hHeld ?_
  refine join_ (σ := Nat × Option Addr × Nat) 1 #[true, true, true, true, true, true, true, true, true, true, true, true, true, true, true, true, true, true, true, true, true, true, true, true, true, true, true, true, true, true, true, true, true, true, true, true, true, false] (fun s => [(29, .slice s.2.1 r.q.vals.length s.2.2), (42, .agg #[.int .i64 r.q.cons, .bool r.q.skip, .slice s.2.1 r.q.vals.length s.2.2, .int .i64 r.q.page, .slice r.q.A4 r.q.paging.length r.q.c4, .int .i64 r.q.serial, .slice r.q.A6 r.q.ts.length r.q.c6]), (43, .agg #[.int .i64 r.op, .slice none 0 0, .string r.text, .slice r.Ai r.id.length r.ci, .int .i64 r.q.cons, .bool r.q.skip, .slice s.2.1 r.q.vals.length s.2.2, .int .i64 r.q.page, .slice r.q.A4 r.q.paging.length r.q.c4, .int .i64 r.q.serial, .slice r.q.A6 r.q.ts.length r.q.c6, .slice r.Ae r.ev.length r.ce, .int .i64 r.batch, .slice none 0 0, .slice r.Ad r.data.length r.cd]), (3, .pointer (some ⟨s.1, 0, none⟩))]) (fun s w' => (w'.cell? ⟨w.heap.size, 0, none⟩ = some (.int .i64 r.op) ∧ w'.cell? ⟨w.heap.size, 2, none⟩ = some (.string r.text) ∧ w'.cell? ⟨w.heap.size, 3, none⟩ = some (.slice r.Ai r.id.length r.ci) ∧ w'.cell? ⟨w.heap.size, 4, none⟩ = some (.int .i64 r.q.cons) ∧ w'.cell? ⟨w.heap.size, 5, none⟩ = some (.bool r.q.skip) ∧ w'.cell? ⟨w.heap.size, 6, none⟩ = some (.slice r.q.A r.q.vals.length r.q.c) ∧ w'.cell? ⟨w.heap.size, 7, none⟩ = some (.int .i64 r.q.page) ∧ w'.cell? ⟨w.heap.size, 8, none⟩ = some (.slice r.q.A4 r.q.paging.length r.q.c4) ∧ w'.cell? ⟨w.heap.size, 9, none⟩ = some (.int .i64 r.q.serial) ∧ w'.cell? ⟨w.heap.size, 10, none⟩ = some (.slice r.q.A6 r.q.ts.length r.q.c6) ∧ w'.cell? ⟨w.heap.size, 11, none⟩ = some (.slice r.Ae r.ev.length r.ce) ∧ w'.cell? ⟨w.heap.size, 12, none⟩ = some (.int .i64 r.batch) ∧ w'.cell? ⟨w.heap.size, 14, none⟩ = some (.slice r.Ad r.data.length r.cd)) ∧ Below w0.heap.size w0 w' ∧ w0.heap.size ≤ s.1 ∧ w'.heap[s.1]? = some (.cells zero39 39 (0, 0)) ∧ (PR w w' w0.heap.size (.slice s.2.1 r.q.vals.length s.2.2) r.q.vals ∧ r.q.vals.length ≤ s.2.2)) ?_ ?_
  rotate_left
  · intro hCont
    refine two_ (i := 21) (j := 36) (Ni := some 29) (Nj := some 3) #[true, true, true, true, true, true, true, true, true, true, true, true, true, true, true, true, true, true, true, true, true, true, true, true, true, true, true, true, true, true, true, true, true, true, false, false, false, false] #[true, true, true, true, true, true, true, true, true, true, true, true, true, true, true, true, true, true, true, true, true, false, true, true, true, true, true, true, true, true, true, true, true, true, false, false, true, false] rfl rfl rfl rfl (by kernel_rfl) (by decide) (by decide) (fun K hK => ?_) (fun K hK => ?_)
    · skip
      refine goes_ Tryz.func14 (by kernel_rfl) rfl #[.slice r.q.A r.q.vals.length r.q.c] (by rfl) rfl rfl (by simp only [List.map_toArray, List.map_cons, List.map_nil]; rfl) ?_
      with_reducible refine (lparams_any w _ r.q.A r.q.c r.q.vals (below_then HBA.out HBA.out.size HBe0.out) HV0.out h2).mono ?_
      rintro e x0 ⟨A1, c1, rfl, hb0, hle1, hz⟩
      refine ⟨_, rfl, ?_⟩
      have HV1 : Hid (PR w x0 w0.heap.size (.slice A1 r.q.vals.length c1) r.q.vals ∧ r.q.vals.length ≤ c1) := Lib.hid ⟨hz.lower HBe0.out.size, hle1⟩
      clear hz hle1
      have HBe1 := Lib.hid (below_then HBe0.out HBe0.out.size hb0)
      clear hb0
      refine hK.out _ _ ⟨pw_cell_below HBe1.out (Hk.out 0 _ rfl), pw_cell_below HBe1.out (Hk.out 2 _ rfl), pw_cell_below HBe1.out (Hk.out 3 _ rfl), pw_cell_below HBe1.out (Hk.out 4 _ rfl), pw_cell_below HBe1.out (Hk.out 5 _ rfl), pw_cell_below HBe1.out (Hk.out 6 _ rfl), pw_cell_below HBe1.out (Hk.out 7 _ rfl), pw_cell_below HBe1.out (Hk.out 8 _ rfl), pw_cell_below HBe1.out (Hk.out 9 _ rfl), pw_cell_below HBe1.out (Hk.out 10 _ rfl), pw_cell_below HBe1.out (Hk.out 11 _ rfl), pw_cell_below HBe1.out (Hk.out 12 _ rfl), pw_cell_below HBe1.out (Hk.out 14 _ rfl)⟩ (fun hHeld => ?_)
      clear hK K
      refine norm_ (a' := ?_) ?_ ?_
      rotate_left
      · show Act.put _ (some 29) _ = _
        simp only [Act.put, List.setIfInBounds_toArray, List.set_cons_zero, List.set_cons_succ, i64_w, i32_w]
        rfl
      refine e_o 34 ?_
      refine e_o 35 ?_
      refine one_ (i := 36) (N := some 3) #[true, true, true, true, true, true, true, true, true, true, true, true, true, true, true, true, true, true, true, true, true, true, true, true, true, true, true, true, true, true, true, true, true, true, true, true, true, false] rfl rfl (by kernel_rfl) (by decide) (fun K hK => ?_)
      refine value_ (w1 := ?_) (v := ?_) (by rfl) rfl ?_ ?_
      rotate_left 2
      · go_simp
        constructor
        · rfl
        · rfl
      have hb1 := below_alloc (Below.refl x0.heap.size x0) (Obj.cells zero39 39)
      have HK2 := Lib.hid (heap_alloc_new x0 (Obj.cells zero39 39))
      have HV2 := Lib.hid (And.intro (OwnRow.below HV1.out.1 hb1) HV1.out.2)
      have HBe2 := Lib.hid (below_then HBe1.out HBe1.out.size hb1)
      clear hb1
      refine hK.out _ _ ⟨pw_cell_below HBe2.out (Hk.out 0 _ rfl), pw_cell_below HBe2.out (Hk.out 2 _ rfl), pw_cell_below HBe2.out (Hk.out 3 _ rfl), pw_cell_below HBe2.out (Hk.out 4 _ rfl), pw_cell_below HBe2.out (Hk.out 5 _ rfl), pw_cell_below HBe2.out (Hk.out 6 _ rfl), pw_cell_below HBe2.out (Hk.out 7 _ rfl), pw_cell_below HBe2.out (Hk.out 8 _ rfl), pw_cell_below HBe2.out (Hk.out 9 _ rfl), pw_cell_below HBe2.out (Hk.out 10 _ rfl), pw_cell_below HBe2.out (Hk.out 11 _ rfl), pw_cell_below HBe2.out (Hk.out 12 _ rfl), pw_cell_below HBe2.out (Hk.out 14 _ rfl)⟩ (fun hHeld => ?_)
      clear hK K
      refine norm_ (a' := ?_) ?_ ?_
      rotate_left
      · show Act.put _ (some 3) _ = _
        simp only [Act.put, List.setIfInBounds_toArray, List.set_cons_zero, List.set_cons_succ, i64_w, i32_w]
        rfl
      exact norm_ (by simp only [putAll, Act.put, List.setIfInBounds_toArray, List.set_cons_zero, List.set_cons_succ]) (hCont (x0.heap.size, A1, c1) _ ⟨⟨pw_cell_below HBe2.out (Hk.out 0 _ rfl), pw_cell_below HBe2.out (Hk.out 2 _ rfl), pw_cell_below HBe2.out (Hk.out 3 _ rfl), pw_cell_below HBe2.out (Hk.out 4 _ rfl), pw_cell_below HBe2.out (Hk.out 5 _ rfl), pw_cell_below HBe2.out (Hk.out 6 _ rfl), pw_cell_below HBe2.out (Hk.out 7 _ rfl), pw_cell_below HBe2.out (Hk.out 8 _ rfl), pw_cell_below HBe2.out (Hk.out 9 _ rfl), pw_cell_below HBe2.out (Hk.out 10 _ rfl), pw_cell_below HBe2.out (Hk.out 11 _ rfl), pw_cell_below HBe2.out (Hk.out 12 _ rfl), pw_cell_below HBe2.out (Hk.out 14 _ rfl)⟩, HBe2.out, HBe1.out.size, HK2.out, HV2.out⟩)
    · skip
      refine value_ (w1 := ?_) (v := ?_) (by rfl) rfl ?_ ?_
      rotate_left 2
      · go_simp
        constructor
        · rfl
        · rfl
      have hb0 : Below w0.drew.heap.size w0.drew (w0.alloc (Obj.cells zero39 39)).drew := below_alloc (Below.refl w0.drew.heap.size w0.drew) (Obj.cells zero39 39)
      have HK1 : Hid ((w0.alloc (Obj.cells zero39 39)).drew.heap[w0.heap.size]? = some (.cells zero39 39 (0, 0))) := Lib.hid (heap_alloc_new w0.drew (Obj.cells zero39 39))
      have HBe1 := Lib.hid (below_then HBe0.out HBe0.out.size hb0)
      clear hb0
      refine hK.out _ _ ⟨pw_cell_below HBe1.out (Hk.out 0 _ rfl), pw_cell_below HBe1.out (Hk.out 2 _ rfl), pw_cell_below HBe1.out (Hk.out 3 _ rfl), pw_cell_below HBe1.out (Hk.out 4 _ rfl), pw_cell_below HBe1.out (Hk.out 5 _ rfl), pw_cell_below HBe1.out (Hk.out 6 _ rfl), pw_cell_below HBe1.out (Hk.out 7 _ rfl), pw_cell_below HBe1.out (Hk.out 8 _ rfl), pw_cell_below HBe1.out (Hk.out 9 _ rfl), pw_cell_below HBe1.out (Hk.out 10 _ rfl), pw_cell_below HBe1.out (Hk.out 11 _ rfl), pw_cell_below HBe1.out (Hk.out 12 _ rfl), pw_cell_below HBe1.out (Hk.out 14 _ rfl)⟩ (fun hHeld => ?_)
      clear hK K
      refine norm_ (a' := ?_) ?_ ?_
      rotate_left
      · show Act.put _ (some 3) _ = _
        simp only [Act.put, List.setIfInBounds_toArray, List.set_cons_zero, List.set_cons_succ, i64_w, i32_w]
        rfl
      refine one_ (i := 21) (N := some 29) #[true, true, true, true, true, true, true, true, true, true, true, true, true, true, true, true, true, true, true, true, true, true, true, true, true, true, true, true, true, true, true, true, true, true, false, false, true, false] rfl rfl (by kernel_rfl) (by decide) (fun K hK => ?_)
      refine goes_ Tryz.func14 (by kernel_rfl) rfl #[.slice r.q.A r.q.vals.length r.q.c] (by rfl) rfl rfl (by simp only [List.map_toArray, List.map_cons, List.map_nil]; rfl) ?_
      with_reducible refine (lparams_any w _ r.q.A r.q.c r.q.vals (below_then HBA.out HBA.out.size HBe1.out) HV0.out h2).mono ?_
      rintro e x1 ⟨A1, c1, rfl, hb1, hle1, hz⟩
      refine ⟨_, rfl, ?_⟩
      have HV2 : Hid (PR w x1 w0.heap.size (.slice A1 r.q.vals.length c1) r.q.vals ∧ r.q.vals.length ≤ c1) := Lib.hid ⟨hz.lower HBe1.out.size, hle1⟩
      clear hz hle1
      have HK2 := Lib.hid (blk_below HK1.out hb1)
      have HBe2 := Lib.hid (below_then HBe1.out HBe1.out.size hb1)
      clear hb1
      refine hK.out _ _ ⟨pw_cell_below HBe2.out (Hk.out 0 _ rfl), pw_cell_below HBe2.out (Hk.out 2 _ rfl), pw_cell_below HBe2.out (Hk.out 3 _ rfl), pw_cell_below HBe2.out (Hk.out 4 _ rfl), pw_cell_below HBe2.out (Hk.out 5 _ rfl), pw_cell_below HBe2.out (Hk.out 6 _ rfl), pw_cell_below HBe2.out (Hk.out 7 _ rfl), pw_cell_below HBe2.out (Hk.out 8 _ rfl), pw_cell_below HBe2.out (Hk.out 9 _ rfl), pw_cell_below HBe2.out (Hk.out 10 _ rfl), pw_cell_below HBe2.out (Hk.out 11 _ rfl), pw_cell_below HBe2.out (Hk.out 12 _ rfl), pw_cell_below HBe2.out (Hk.out 14 _ rfl)⟩ (fun hHeld => ?_)
      clear hK K
      refine norm_ (a' := ?_) ?_ ?_
      rotate_left
      · show Act.put _ (some 29) _ = _
        simp only [Act.put, List.setIfInBounds_toArray, List.set_cons_zero, List.set_cons_succ, i64_w, i32_w]
        rfl
      refine e_o 34 ?_
      refine e_o 35 ?_
      exact norm_ (by simp only [putAll, Act.put, List.setIfInBounds_toArray, List.set_cons_zero, List.set_cons_succ]) (hCont (w0.heap.size, A1, c1) _ ⟨⟨pw_cell_below HBe2.out (Hk.out 0 _ rfl), pw_cell_below HBe2.out (Hk.out 2 _ rfl), pw_cell_below HBe2.out (Hk.out 3 _ rfl), pw_cell_below HBe2.out (Hk.out 4 _ rfl), pw_cell_below HBe2.out (Hk.out 5 _ rfl), pw_cell_below HBe2.out (Hk.out 6 _ rfl), pw_cell_below HBe2.out (Hk.out 7 _ rfl), pw_cell_below HBe2.out (Hk.out 8 _ rfl), pw_cell_below HBe2.out (Hk.out 9 _ rfl), pw_cell_below HBe2.out (Hk.out 10 _ rfl), pw_cell_below HBe2.out (Hk.out 11 _ rfl), pw_cell_below HBe2.out (Hk.out 12 _ rfl), pw_cell_below HBe2.out (Hk.out 14 _ rfl)⟩, HBe2.out, HBe0.out.size, HK2.out, HV2.out⟩)
  rintro ⟨K, A1, c1⟩ x4 ⟨hHeld, hBe, hKge, hK, hz⟩
  have HK := Lib.hid hK
  have hf : ∀ i, x4.frozen? ⟨K, i, none⟩ = false := fun i => blk_froz HK.out
  have hq0 : x4.cell? ⟨K, 0, none⟩ = some (.int .i64 0) := (cell_of_row _ _ 0 _ _ _ HK.out).trans rfl
  have hq1 : x4.cell? ⟨K, 1, none⟩ = some (.slice none 0 0) := (cell_of_row _ _ 1 _ _ _ HK.out).trans rfl
  have hq2 : x4.cell? ⟨K, 2, none⟩ = some (.string ⟨#[]⟩) := (cell_of_row _ _ 2 _ _ _ HK.out).trans rfl
  have hq3 : x4.cell? ⟨K, 3, none⟩ = some (.slice none 0 0) := (cell_of_row _ _ 3 _ _ _ HK.out).trans rfl
  have hq4 : x4.cell? ⟨K, 4, none⟩ = some (.int .i64 0) := (cell_of_row _ _ 4 _ _ _ HK.out).trans rfl
  have hq5 : x4.cell? ⟨K, 5, none⟩ = some (.bool false) := (cell_of_row _ _ 5 _ _ _ HK.out).trans rfl
  have hq6 : x4.cell? ⟨K, 6, none⟩ = some (.slice none 0 0) := (cell_of_row _ _ 6 _ _ _ HK.out).trans rfl
  have hq7 : x4.cell? ⟨K, 7, none⟩ = some (.int .i64 0) := (cell_of_row _ _ 7 _ _ _ HK.out).trans rfl
  have hq8 : x4.cell? ⟨K, 8, none⟩ = some (.slice none 0 0) := (cell_of_row _ _ 8 _ _ _ HK.out).trans rfl
  have hq9 : x4.cell? ⟨K, 9, none⟩ = some (.int .i64 0) := (cell_of_row _ _ 9 _ _ _ HK.out).trans rfl
  have hq10 : x4.cell? ⟨K, 10, none⟩ = some (.slice none 0 0) := (cell_of_row _ _ 10 _ _ _ HK.out).trans rfl
  have hq11 : x4.cell? ⟨K, 11, none⟩ = some (.slice none 0 0) := (cell_of_row _ _ 11 _ _ _ HK.out).trans rfl
  have hq12 : x4.cell? ⟨K, 12, none⟩ = some (.int .i64 0) := (cell_of_row _ _ 12 _ _ _ HK.out).trans rfl
  have hq13 : x4.cell? ⟨K, 13, none⟩ = some (.slice none 0 0) := (cell_of_row _ _ 13 _ _ _ HK.out).trans rfl
  have hq14 : x4.cell? ⟨K, 14, none⟩ = some (.slice none 0 0) := (cell_of_row _ _ 14 _ _ _ HK.out).trans rfl
  refine norm_ (a' := ?_) ?_ ?_
  rotate_left
  · simp only [putAll, Act.put, List.setIfInBounds_toArray, List.set_cons_zero, List.set_cons_succ]
    rfl
  refine last_ (i := 37) (N := none) #[true, true, true, true, true, true, true, true, true, true, true, true, true, true, true, true, true, true, true, true, true, true, true, true, true, true, true, true, true, true, true, true, true, true, true, true, true, true] rfl rfl (by kernel_rfl) (by decide) (fun K hK => ?_)
  refine skip_ (w1 := ?_) (by rfl) rfl ?_ ?_
  rotate_left
  · go_simp
    rfl
  refine hK.out _ _ ?_
  clear hK K
  refine done_ (by kernel_rfl) ?_
  have HBK := Lib.hid hBe
  have HZ := Lib.hid hz
  have HKge := Lib.hid hKge
  clear hBe hz hKge hK
  obtain ⟨W, hW⟩ : ∃ W, W = setL x4 K 0 [.int .i64 r.op, .slice none 0 0, .string r.text, .slice r.Ai r.id.length r.ci, .int .i64 r.q.cons, .bool r.q.skip, .slice A1 r.q.vals.length c1, .int .i64 r.q.page, .slice r.q.A4 r.q.paging.length r.q.c4, .int .i64 r.q.serial, .slice r.q.A6 r.q.ts.length r.q.c6, .slice r.Ae r.ev.length r.ce, .int .i64 r.batch, .slice none 0 0, .slice r.Ad r.data.length r.cd] := ⟨_, rfl⟩
  have hW' := hW
  simp only [setL, Nat.zero_add, Nat.reduceAdd] at hW'
  rw [← hW']
  clear hW'
  have hS := setL_at [.int .i64 r.op, .slice none 0 0, .string r.text, .slice r.Ai r.id.length r.ci, .int .i64 r.q.cons, .bool r.q.skip, .slice A1 r.q.vals.length c1, .int .i64 r.q.page, .slice r.q.A4 r.q.paging.length r.q.c4, .int .i64 r.q.serial, .slice r.q.A6 r.q.ts.length r.q.c6, .slice r.Ae r.ev.length r.ce, .int .i64 r.batch, .slice none 0 0, .slice r.Ad r.data.length r.cd] x4 0 _ HK.out
  have HKW : Hid (W.heap[K]? = some (.cells (ocells r (.slice none 0 0) A1 c1 (.slice none 0 0)) 39 (0, 0))) := by
    rw [hW]
    refine Lib.hid (hS.trans ?_)
    simp only [setC, Nat.zero_add, Nat.reduceAdd, List.setIfInBounds_toArray, List.set_cons_zero, List.set_cons_succ]
  have HBW : Hid (Below w0.heap.size w0 W) := by rw [hW]; exact Lib.hid (setL_below HKge.out _ _ _ HBK.out)
  have HZW : Hid (PR w W w0.heap.size (.slice A1 r.q.vals.length c1) r.q.vals ∧ r.q.vals.length ≤ c1) := by
    rw [hW]
    obtain ⟨⟨inner, h3, h4⟩, h5⟩ := HZ.out
    exact Lib.hid ⟨⟨inner, setL_own (own_ne h3 HK.out (by decide)) _ _ _ h3, h4⟩, h5⟩
  clear hW hS HBK HZ HK hf hq0 hq1 hq2 hq3 hq4 hq5 hq6 hq7 hq8 hq9 hq10 hq11 hq12 hq13 hq14 hHeld
  simp only [Exit.then]
  refine (‹∀ (a : Act) (w : World), Code.wp Tryz.prog _ _ a w → _›) _ _ ?_
  refine Hkk.out _ W K A1 c1 ?_ ⟨?_, HKW.out, blk_below HN1.out HBW.out, blk_below HN2.out HBW.out, ?_, OwnRow.lower HZW.out.1 HBA.out.size, HZW.out.2⟩
  · exact ⟨rfl, rfl, rfl, rfl, rfl⟩
  · exact below_then HBA.out HBA.out.size HBW.out
  · have h1 := HKge.out
    have h2 := blk_lt HN2.out
    omega
theorem I5.open_ {B1 B2 O : Nat} {a : Act} (h : I5 B1 B2 O a) : ∃ g : Nat → Value, a = ⟨#[g 0, .pointer (some ⟨B1, 0, none⟩), .pointer (some ⟨B2, 0, none⟩), .pointer (some ⟨O, 0, none⟩), g 4, g 5, g 6, g 7, g 8, g 9, g 10, g 11, g 12, g 13, g 14, g 15, g 16, g 17, g 18, g 19, g 20, g 21, g 22, g 23, g 24, g 25, g 26, g 27, g 28, g 29, g 30, g 31, g 32, g 33, g 34, g 35, g 36, g 37, g 38, g 39, g 40, g 41, g 42, g 43, g 44, g 45, g 46, g 47, g 48, g 49, g 50, g 51, g 52, g 53, g 54, g 55, g 56, g 57, g 58, g 59, g 60, g 61, g 62, g 63, g 64, g 65, g 66, g 67, g 68, g 69, g 70, g 71, g 72, g 73, g 74, g 75, g 76, g 77, g 78, g 79, g 80, g 81, g 82, g 83], []⟩ := by
  obtain ⟨hd, hs, h1, h2, h3⟩ := h
  refine ⟨fun t => a.tmps.getD t undef, ?_⟩
  have e := frame_open 84 a hd hs
  generalize hg : (fun t => a.tmps.getD t undef) = g at e
  have g1 : g 1 = .pointer (some ⟨B1, 0, none⟩) := by rw [← hg]; exact h1
  have g2 : g 2 = .pointer (some ⟨B2, 0, none⟩) := by rw [← hg]; exact h2
  have g3 : g 3 = .pointer (some ⟨O, 0, none⟩) := by rw [← hg]; exact h3
  have e2 : ((List.range 84).map g).toArray = #[g 0, g 1, g 2, g 3, g 4, g 5, g 6, g 7, g 8, g 9, g 10, g 11, g 12, g 13, g 14, g 15, g 16, g 17, g 18, g 19, g 20, g 21, g 22, g 23, g 24, g 25, g 26, g 27, g 28, g 29, g 30, g 31, g 32, g 33, g 34, g 35, g 36, g 37, g 38, g 39, g 40, g 41, g 42, g 43, g 44, g 45, g 46, g 47, g 48, g 49, g 50, g 51, g 52, g 53, g 54, g 55, g 56, g 57, g 58, g 59, g 60, g 61, g 62, g 63, g 64, g 65, g 66, g 67, g 68, g 69, g 70, g 71, g 72, g 73, g 74, g 75, g 76, g 77, g 78, g 79, g 80, g 81, g 82, g 83] := rfl
  rw [g1, g2, g3] at e2
  rw [e, e2]
abbrev OR (w W : World) (base : Nat) (v : Value) (xs : List S53) : Prop := OwnRow (fun x cs => k54.K w x cs) 54 2 W base v (xs.map c54)
theorem OR.other {w W W1 : World} {base : Nat} {v : Value} {ps : List S54} {b e size n : Nat} {u : Value} {cs : List Value} (h : OwnRow (fun x cs => k54.K w x cs) 54 2 W base v ps) (hg : W.grownBy W1 u.ownBlock) (ho : W.ownsRow b e size u n cs) (hne : e ≠ 54) : OwnRow (fun x cs => k54.K w x cs) 54 2 W1 base v ps := by
  obtain ⟨inner, h1, h2⟩ := h
  exact ⟨inner, own_other h1 hg (own_type_ne h1 ho (Ne.symm hne)), h2⟩
/-- What is known of memory between the statements. -/
def G5 (w : World) (r : IR) (O : Nat) (A : Option Addr) (c : Nat) (vo vs : Value) (W : World) : Prop :=
  Below w.heap.size w W ∧ W.heap[O]? = some (.cells (ocells r vo A c vs) 39 (0, 0)) ∧ W.heap[w.heap.size]? = some (.cells r.cells 31 (0, 0)) ∧ W.heap[w.heap.size + 1]? = some (.cells zero39 39 (0, 0)) ∧ w.heap.size + 1 < O ∧ PR w W w.heap.size (.slice A r.q.vals.length c) r.q.vals ∧ r.q.vals.length ≤ c
theorem G5.below_ {w W W1 : World} {r : IR} {O c : Nat} {A : Option Addr} {vo vs : Value} (h : G5 w r O A c vo vs W) (hb : Below W.heap.size W W1) : G5 w r O A c vo vs W1 :=
  ⟨below_then h.1 h.1.size hb, blk_below h.2.1 hb, blk_below h.2.2.1 hb, blk_below h.2.2.2.1 hb, h.2.2.2.2.1, OwnRow.below h.2.2.2.2.2.1 hb, h.2.2.2.2.2.2⟩
/-- .. behind an append to another row and a store into the copy. -/
theorem G5.put_ {w W W1 : World} {r : IR} {O c i b e size n : Nat} {A : Option Addr} {vo vs vo' vs' u v' : Value} {cs : List Value} (h : G5 w r O A c vo vs W) (hg : W.grownBy W1 u.ownBlock) (ho : W.ownsRow b e size u n cs) (hb : w.heap.size ≤ b) (h1 : e ≠ 39) (h2 : e ≠ 31) (h3 : e ≠ 87)
    (he : (ocells r vo A c vs).setIfInBounds i v' = ocells r vo' A c vs') : G5 w r O A c vo' vs' (W1.setCell ⟨O, i, none⟩ v') := by
  obtain ⟨g1, g2, g3, g4, g5, g6, g7⟩ := h
  have f2 := blk_grown g2 hg (own_ne ho g2 h1)
  have f3 := blk_grown g3 hg (own_ne ho g3 h2)
  have f4 := blk_grown g4 hg (own_ne ho g4 h1)
  refine ⟨(pw_below_grown g1 _ g1.size hg (fun k hk => Nat.le_trans hb (own_base ho k hk))).setCell (p := ⟨O, i, none⟩) (by simp; omega) _, ?_, setL_far (by omega) [v'] W1 i f3, setL_far (by omega) [v'] W1 i f4, g5, OwnRow.set_ (PR.other g6 hg ho h3) f2 (by decide) _ _, g7⟩
  rw [← he]
  exact blk_set f2 i v'
theorem G5.o_ {w W W1 : World} {r : IR} {O c b e size n : Nat} {A : Option Addr} {vo vs u : Value} {cs : List Value} (h : G5 w r O A c vo vs W) (hg : W.grownBy W1 u.ownBlock) (ho : W.ownsRow b e size u n cs) (h1 : e ≠ 39) : W1.heap[O]? = some (.cells (ocells r vo A c vs) 39 (0, 0)) := blk_grown h.2.1 hg (own_ne ho h.2.1 h1)
theorem ap_big {W : World} {base : Nat} (t ty e k bytes : Nat) (z : Value) (ht : Tryz.prog.underlying t = some (.slice e)) (hinfo : (Tryz.prog.info? e).map (fun i => (i.zero, i.size, i.bytes)) = some (some z, k, bytes)) (hzs : z.cells.size = k) (hk : 0 < k) (hby : bytes ≤ 1000)
    (v : Value) (n : Nat) (xs : List Value) (B c : Nat) {fr : Nat × Nat} {cells : Array Value} (HO : W.ownsRow base e k v n xs) (hB : W.heap[B]? = some (.cells cells e fr)) (hcs : cells.size = k) (h1 : ∀ u ∈ cells.toList, u.oneCell' = true) (hn : n ≤ 2147483647) (hbase : base ≤ W.heap.size) :
    ∃ v1 w1, (Builtin.append_ #[t, t] ty #[v, .slice (some ⟨B, 0, none⟩) 1 c]).run Tryz.prog W = .ok v1 w1 ∧ (w1.ownsRow base e k v1 (n + 1) (xs ++ cells.toList) ∧ W.grownBy w1 v.ownBlock) := by
  obtain ⟨i0, hi, hz0, hz1, hz2⟩ := info_parts hinfo
  obtain ⟨v1, w1, hr, h2, h3, _⟩ := run_append_own_at (P := Tryz.prog) W base t ty e i0 z k bytes ht hi hz0 hz1 hz2 hzs hk v n xs HO ⟨B, 0, none⟩ 1 c cells.toList (by simp [hcs]) (by
    intro j u hu
    rw [add_plain, cell_of_row W B j _ _ _ hB]
    simpa using hu) h1 (by simp only [maxLen]; omega) (by
      have : (n + 1) * bytes ≤ 2147483648 * 1000 := Nat.mul_le_mul (by omega) hby
      omega) hbase
  exact ⟨v1, w1, hr, h2, h3⟩
set_option maxHeartbeats 4000000 in
theorem p5_2 {Q : Exit → Act → World → Prop} {w W : World} {r : IR} {O c : Nat} {A : Option Addr} {a : Act} (hI : I5 w.heap.size (w.heap.size + 1) O a) (hG : G5 w r O A c (.slice none 0 0) (.slice none 0 0) W) (hC : Kd.C k53 w r.Ao r.opts.length r.opts) (hN : r.opts.length ≤ 2147483647)
    (h : ∀ a' W' vo, I5 w.heap.size (w.heap.size + 1) O a' → G5 w r O A c vo (.slice none 0 0) W' → OR w W' w.heap.size vo r.opts → Q .normal a' W') : Code.wp Tryz.prog (c5 2) Q a W := by
  have HC := Lib.hid hC
  have HG := Lib.hid hG
  have HH := Lib.hid h
  have k1 : W.cell? ⟨w.heap.size, 1, none⟩ = some (.slice r.Ao r.opts.length r.co) := (cell_of_row _ _ 1 _ _ _ hG.2.2.1).trans rfl
  clear hC hG h
  generalize r.Ao = Ao at k1 HC
  obtain ⟨g, rfl⟩ := hI.open_
  clear hI
  conv => arg 2; whnf
  go_wp2
  clear k1
  go_loopw [47] (fun v47 W => ∃ i : Nat, v47 = .int .i64 i ∧ i ≤ r.opts.length ∧ Hid (∃ vo, G5 w r O A c vo (.slice none 0 0) W ∧ OR w W w.heap.size vo (r.opts.take i))) (fun v47 _ => r.opts.length - (intOf v47).toNat)
  case atStart => exact ⟨0, rfl, by omega, Lib.hid ⟨_, HG.out, OwnRow.none_ _ _ _ _ _⟩⟩
  case round =>
    obtain ⟨i, rfl, hi, HX⟩ := hrel
    clear HG
    obtain ⟨vo, hg, ho⟩ := HX.out
    clear HX
    have HG := Lib.hid hg
    have HO : Hid (OwnRow (fun x cs => k54.K w x cs) 54 2 wr w.heap.size vo ((r.opts.take i).map c54)) := Lib.hid ho
    clear hg ho
    by_cases hlt : i < r.opts.length
    · have hx : r.opts[i]? = some r.opts[i] := List.getElem?_eq_getElem hlt
      obtain ⟨ad, rfl, hx0, hx1⟩ := at_T53 HC.out (i : Int) (by omega) (by omega)
      have hrd : rd_T53 r.opts (i : Int) = r.opts[i] := by simp [rd_T53, List.getD_eq_getElem?_getD, hx]
      rw [hrd] at hx0 hx1
      rw [Int.toNat_natCast] at hx0 hx1
      have kx0 := pw_cell_below HG.out.1 hx0
      have kx1 := pw_cell_below HG.out.1 hx1
      have Htk := Lib.hid (show (r.opts.take (i + 1)).map c54 = (r.opts.take i).map c54 ++ [c54 r.opts[i]] by rw [List.take_succ_eq_append_getElem hlt, List.map_append]; rfl)
      have Hlen := Lib.hid (show ((r.opts.take i).map c54).length = i by rw [List.length_map, List.length_take]; omega)
      generalize hps : (r.opts.take i).map c54 = ps at *
      have Hps := Lib.hid hps
      generalize r.opts[i] = x at *
      clear hx hrd hx0 hx1 hps
      obtain ⟨xk, xv⟩ := x
      simp only at kx0 kx1
      have HBw := Lib.hid (below_alloc (Below.refl wr.heap.size wr) (.cells #[.string xk, .string xv] 53))
      have HGa := Lib.hid (HG.out.below_ HBw.out)
      have HGb := Lib.hid (HGa.out.below_ (below_alloc (Below.refl _ _) (.cells #[.string xk, .string xv] 54)))
      have HOa := Lib.hid (OwnRow.below HO.out HBw.out)
      have ko : (wr.alloc (.cells #[.string xk, .string xv] 53)).cell? ⟨O, 1, none⟩ = some vo := (cell_of_row _ _ 1 _ _ _ HGa.out.2.1).trans rfl
      clear HG HO
      go_wp2_with (at_builtin; refine OwnRow.append (w0 := w) (R := fun x cs => k54.K w x cs) w.heap.size rfl (.tmp 52) (.tmp 58) 33 54 _ 2 32 rfl Tryz.underlying33 info54 rfl (by omega) (by omega) vo ps (c54 ⟨xk, xv⟩) [.string xk, .string xv] rfl (by simp; rfl) (k54_mk w _) rfl (by simp [Value.oneCell']) HOa.out HGa.out.1 HGa.out.1.size (by rw [Hlen.out]; omega) ?_; intro v1 w1 hown1 hb1 hg1 hat1; obtain ⟨inn, hin, _⟩ := HOa.out; have hO1 := HGa.out.o_ hg1 hin (by decide); have ko1 := (cell_of_row _ _ 1 _ _ _ hO1).trans rfl; have kf1 := blk_froz (i := 1) hO1; obtain ⟨A1, c1, hv1, hle1⟩ := hown1.slice_; rw [List.length_append, List.length_singleton] at hv1; subst hv1)
      have HG1 := Lib.hid (HGa.out.put_ (i := 1) (vo' := .slice A1 (ps.length + 1) c1) (vs' := .slice none 0 0) hg1 hin (Nat.le_refl _) (by decide) (by decide) (by decide) rfl)
      have HO1 := Lib.hid (hown1.set_ hO1 (by decide) 1 (.slice A1 (ps.length + 1) c1))
      clear hown1 hb1 hg1 hat1 kx0 kx1 hin hO1 ko1 kf1 ko hle1
      go_roundw
      case rel =>
        refine ⟨i + 1, by go_num, by omega, Lib.hid ⟨_, HG1.out, ?_⟩⟩
        show OwnRow _ 54 2 _ _ _ ((r.opts.take (i + 1)).map c54)
        rw [Htk.out]
        exact HO1.out
      case measure => simp [intOf]; omega
    · have hii : i = r.opts.length := by omega
      subst hii
      rw [List.take_length] at HO
      go_wp2
      exact HH.out _ _ _ ⟨rfl, rfl, rfl, rfl, rfl⟩ HG.out HO.out
set_option maxHeartbeats 4000000 in
theorem p5_3 {KK : Act → World → Prop} {R : Ending → World → Prop} {w W : World} {r : IR} {O c : Nat} {A : Option Addr} {a : Act} {vo : Value} (hI : I5 w.heap.size (w.heap.size + 1) O a) (hG : G5 w r O A c vo (.slice none 0 0) W) (hO : OR w W w.heap.size vo r.opts) (hC : Kd.C k56 w r.As r.sts.length r.sts) (hN : r.sts.length ≤ 2147483647) (hd : ∀ x ∈ r.sts, x.f2.length ≤ 2147483647)
    (h : ∀ a' W' vs ss, I5 w.heap.size (w.heap.size + 1) O a' → G5 w r O A c vo vs W' → OR w W' w.heap.size vo r.opts → W'.ownsRow w.heap.size 58 3 vs r.sts.length (ss.flatMap SC.z) → SCs w W' w.heap.size ss r.sts → KK a' W') : Code.wp Tryz.prog (c5 3) (Exit.then KK (bodyPost Tryz.prog Tryz.f5 R)) a W := by
  have HC := Lib.hid hC
  have HG := Lib.hid hG
  have HO : Hid (OwnRow (fun x cs => k54.K w x cs) 54 2 W w.heap.size vo (r.opts.map c54)) := Lib.hid hO
  have HH := Lib.hid h
  have Hd := Lib.hid hd
  have k13 : W.cell? ⟨w.heap.size, 13, none⟩ = some (.slice r.As r.sts.length r.cs) := (cell_of_row _ _ 13 _ _ _ hG.2.2.1).trans rfl
  clear hC hG h hO hd
  generalize r.As = As at k13 HC
  obtain ⟨g, rfl⟩ := hI.open_
  clear hI
  conv => arg 2; whnf
  go_wp2
  clear k13
  go_loopw [65] (fun v65 W => ∃ i : Nat, v65 = .int .i64 i ∧ i ≤ r.sts.length ∧ Hid (∃ vs ss, ss.length = i ∧ G5 w r O A c vo vs W ∧ OwnRow (fun x cs => k54.K w x cs) 54 2 W w.heap.size vo (r.opts.map c54) ∧ W.ownsRow w.heap.size 58 3 vs i (ss.flatMap SC.z) ∧ SCs w W w.heap.size ss (r.sts.take i))) (fun v65 _ => r.sts.length - (intOf v65).toNat)
  case atStart => exact ⟨0, rfl, by omega, Lib.hid ⟨_, [], rfl, HG.out, HO.out, own_nil _ _ _ _, rfl, fun s hs => by simp at hs⟩⟩
  case round =>
    obtain ⟨i, rfl, hi, HX⟩ := hrel
    clear HG HO
    obtain ⟨vs, ss, hss, hg, ho, hrow, hsc⟩ := HX.out
    clear HX
    have Hss := Lib.hid hss
    have HG1 := Lib.hid hg
    have HO1 := Lib.hid ho
    have HRow1 := Lib.hid hrow
    have HSS1 := Lib.hid hsc
    clear hss hg ho hrow hsc
    by_cases hlt : i < r.sts.length
    · have hx : r.sts[i]? = some r.sts[i] := List.getElem?_eq_getElem hlt
      obtain ⟨ad, Ai, ci, Av, cv, rfl, hx0, hx1, hx2, hl1, hi1, hl2, hi2⟩ := at_T56 HC.out (i : Int) (by omega) (by omega)
      have hrd : rd_T56 r.sts (i : Int) = r.sts[i] := by simp [rd_T56, List.getD_eq_getElem?_getD, hx]
      rw [hrd] at hx0 hx1 hx2 hl1 hi1 hl2 hi2
      rw [Int.toNat_natCast] at hx0 hx1 hx2
      have hN2 := Hd.out _ (List.getElem_mem hlt)
      have kx0 := pw_cell_below HG1.out.1 hx0
      have kx1 := pw_cell_below HG1.out.1 hx1
      have kx2 := pw_cell_below HG1.out.1 hx2
      have Htk := Lib.hid (List.take_succ_eq_append_getElem hlt)
      generalize r.sts[i] = x at *
      clear hx hrd hx0 hx1 hx2
      obtain ⟨st, id, l⟩ := x
      simp only at kx0 kx1 kx2 hl1 hi1 hl2 hi2 hN2
      have Hid1 := Lib.hid (And.intro hl1 hi1)
      have Hvs := Lib.hid hi2
      have Hl2 := Lib.hid hl2
      clear hi1 hi2 hl1 hl2
      generalize hcs : ss.flatMap SC.z = cs at *
      have Hcs := Lib.hid hcs
      clear hcs
      have HK := Lib.hid (heap_alloc_new wr (Obj.cells #[.string st, .slice Ai id.length ci, .slice Av l.length cv] 56))
      have HBq := Lib.hid (below_alloc (Below.refl wr.heap.size wr) (Obj.cells #[.string st, .slice Ai id.length ci, .slice Av l.length cv] 56))
      have HRow := Lib.hid (HRow1.out.alloc (Obj.cells #[.string st, .slice Ai id.length ci, .slice Av l.length cv] 56))
      have HG := Lib.hid (HG1.out.below_ HBq.out)
      have HO := Lib.hid (OwnRow.below HO1.out HBq.out)
      have HSS := Lib.hid (HSS1.out.map (fun v ps h => OwnRow.below h HBq.out))
      clear HRow1 HG1 HO1 HSS1 HBq
      go_upto_region 10 with (fail)
      clear kx0 kx1 kx2
      generalize wr.alloc _ = wq at *
      generalize wr.heap.size = K at *
      have HGd := Lib.hid HG.out.1.drew
      refine start_ (n := 14) (S := fun w' => w'.cell? ⟨O, 13, none⟩ = some vs ∧ w'.cell? ⟨K, 0, none⟩ = some (.string st) ∧ w'.cell? ⟨K, 1, none⟩ = some (.slice Ai id.length ci) ∧ w'.cell? ⟨K, 2, none⟩ = some (.slice Av l.length cv)) (ds := [11, 13]) #[false, false, false, false, false, false, false, false, false, false, false, false, false, false] (by kernel_rfl) rfl rfl ⟨((cell_of_row _ _ 13 _ _ _ (blk_drew HG.out.2.1)).trans rfl), ((cell_of_row _ _ 0 _ _ _ (blk_drew HK.out)).trans rfl), ((cell_of_row _ _ 1 _ _ _ (blk_drew HK.out)).trans rfl), ((cell_of_row _ _ 2 _ _ _ (blk_drew HK.out)).trans rfl)⟩ (fun hHeld => ?_)
      refine e_o 0 ?_
      refine e_o 2 ?_
      refine e_o 4 ?_
      refine e_o 6 ?_
      refine e_t 1 hHeld ?_
      refine e_t 3 hHeld ?_
      refine e_t 5 hHeld ?_
      refine e_t 7 hHeld ?_
      refine one_ (i := 8) (N := some 77) #[true, true, true, true, true, true, true, true, true, false, false, false, false, false] rfl rfl (by kernel_rfl) (by decide) (fun K hK => ?_)
      refine goes_ Tryz.func14 (by kernel_rfl) rfl #[.slice Av l.length cv] (by rfl) rfl rfl (by simp only [List.map_toArray, List.map_cons, List.map_nil]; rfl) ?_
      with_reducible refine (lparams_any w _ Av cv l HGd.out Hvs.out hN2).mono ?_
      rintro e x2 ⟨Av2, cv2, rfl, hb2, hle2, hz⟩
      refine ⟨_, rfl, ?_⟩
      have HV2 : Hid (PR w x2 w.heap.size (.slice Av2 l.length cv2) l) := Lib.hid (OwnRow.lower hz HGd.out.size)
      have HG2 := Lib.hid (HG.out.below_ (below_then (Below.refl _ _).drew (Nat.le_refl _) hb2))
      have HK2 := Lib.hid (blk_below (blk_drew HK.out) hb2)
      have HR2 := Lib.hid (pw_own_below HRow.out.drew hb2)
      have HO2 := Lib.hid (OwnRow.below (OwnRow.below HO.out (Below.refl _ _).drew) hb2)
      have HS2 := Lib.hid (HSS.out.map (fun v ps h => OwnRow.below (OwnRow.below h (Below.refl _ _).drew) hb2))
      clear hb2 hz
      refine hK.out _ _ ⟨((cell_of_row _ _ 13 _ _ _ HG2.out.2.1).trans rfl), ((cell_of_row _ _ 0 _ _ _ HK2.out).trans rfl), ((cell_of_row _ _ 1 _ _ _ HK2.out).trans rfl), ((cell_of_row _ _ 2 _ _ _ HK2.out).trans rfl)⟩ (fun hHeld => ?_)
      clear hK K
      refine norm_ (a' := ?_) ?_ ?_
      rotate_left
      · show Act.put _ (some 77) _ = _
        simp only [Act.put, List.setIfInBounds_toArray, List.set_cons_zero, List.set_cons_succ, i64_w, i32_w]
        rfl
      refine e_o 9 ?_
      refine one_ (i := 10) (N := some 79) #[true, true, true, true, true, true, true, true, true, true, true, false, false, false] rfl rfl (by kernel_rfl) (by decide) (fun K hK => ?_)
      refine value_ (w1 := ?_) (v := ?_) (by rfl) rfl ?_ ?_
      rotate_left 2
      · go_simp
        constructor
        · rfl
        · rfl
      refine hK.out _ _ ⟨((cell_of_row _ _ 13 _ _ _ (blk_alloc HG2.out.2.1 _)).trans rfl), ((cell_of_row _ _ 0 _ _ _ (blk_alloc HK2.out _)).trans rfl), ((cell_of_row _ _ 1 _ _ _ (blk_alloc HK2.out _)).trans rfl), ((cell_of_row _ _ 2 _ _ _ (blk_alloc HK2.out _)).trans rfl)⟩ (fun hHeld => ?_)
      clear hK K
      refine norm_ (a' := ?_) ?_ ?_
      rotate_left
      · show Act.put _ (some 79) _ = _
        simp only [Act.put, List.setIfInBounds_toArray, List.set_cons_zero, List.set_cons_succ, i64_w, i32_w]
        rfl
      refine last_ (i := 11) (N := some 80) #[true, true, true, true, true, true, true, true, true, true, true, true, false, false] rfl rfl (by kernel_rfl) (by decide) (fun K hK => ?_)
      refine app_step (E := _) rfl (.tmp 70) (.tmp 79) 37 37 rfl vs _ rfl rfl (ap_big 37 _ 58 3 64 _ Tryz.underlying37 info58 rfl (by omega) (by omega) vs i cs x2.heap.size 1 (HR2.out.alloc _) (heap_alloc_new _ _) rfl (by simp [Value.oneCell']) (by omega) (HG2.out.below_ (below_alloc (Below.refl _ _) _)).1.size) ?_
      rintro v4 x4 ⟨hown, hgrow⟩
      have HGn := Lib.hid (HG2.out.below_ (below_alloc (Below.refl x2.heap.size x2) (Obj.cells #[.string st, .slice Ai id.length ci, .slice Av2 l.length cv2] 58)))
      have hRn := HR2.out.alloc (Obj.cells #[.string st, .slice Ai id.length ci, .slice Av2 l.length cv2] 58)
      have hO4 := HGn.out.o_ hgrow hRn (by decide)
      have ko4 : x4.cell? ⟨O, 13, none⟩ = some vs := (cell_of_row _ _ 13 _ _ _ hO4).trans rfl
      have kf4 := blk_froz (i := 13) hO4
      obtain ⟨A4, m4, c4, rfl⟩ := own_form hown
      refine hK.out _ _ ?_
      clear hK K
      refine norm_ (a' := ?_) ?_ ?_
      rotate_left
      · show Act.put _ (some 80) _ = _
        simp only [Act.put, List.setIfInBounds_toArray, List.set_cons_zero, List.set_cons_succ, i64_w, i32_w]
        rfl
      refine e_o 12 ?_
      refine last_ (i := 13) (N := none) #[true, true, true, true, true, true, true, true, true, true, true, true, true, true] rfl rfl (by kernel_rfl) (by decide) (fun K hK => ?_)
      refine skip_ (w1 := ?_) (by rfl) rfl ?_ ?_
      rotate_left
      · go_simp
        rfl
      refine hK.out _ _ ?_
      clear hK K
      refine done_ (by kernel_rfl) ?_
      have HG5 := Lib.hid (HGn.out.put_ (i := 13) (vo' := vo) (vs' := .slice A4 m4 c4) hgrow hRn (Nat.le_refl _) (by decide) (by decide) (by decide) rfl)
      have hRo := own_setCell (p := ⟨O, 13, none⟩) hown (own_ne hown hO4 (by decide)) (.slice A4 m4 c4)
      have hM : Hid (∀ v ps, OwnRow (fun x cs => k87.K w x cs) 87 4 x2 w.heap.size v ps → OwnRow (fun x cs => k87.K w x cs) 87 4 (x4.setCell ⟨O, 13, none⟩ (.slice A4 m4 c4)) w.heap.size v ps) := Lib.hid (fun v ps h => OwnRow.set_ (PR.other (OwnRow.below h (below_alloc (Below.refl _ _) _)) hgrow hRn (by decide)) hO4 (by decide) _ _)
      have HO5 := Lib.hid (OwnRow.set_ (OR.other (OwnRow.below HO2.out (below_alloc (Below.refl _ _) _)) hgrow hRn (by decide)) hO4 (by decide) 13 (.slice A4 m4 c4))
      have HS5 := Lib.hid (HS2.out.map hM.out)
      have HV5 := Lib.hid (hM.out _ _ HV2.out)
      have HR5 := Lib.hid hRo
      clear hgrow hown hHeld HS2 HV2 HR2 HK2 HO2 HG2 HGn hRn hO4 ko4 kf4 hRo hM HG HO HRow HSS HK HGd Hvs Hl2
      go_wp2
      go_roundw
      case rel =>
        refine ⟨i + 1, by go_num, by omega, Lib.hid ⟨_, ss ++ [⟨⟨st, id, l⟩, Ai, ci, Av2, cv2⟩], by simp [Hss.out], HG5.out, HO5.out, ?_, ?_, ?_⟩⟩
        · rw [List.flatMap_append, Hcs.out]
          exact HR5.out
        · rw [Htk.out, List.map_append, HS5.out.1]
          rfl
        · intro s hs
          rcases List.mem_append.1 hs with hs | hs
          · exact HS5.out.2 s hs
          · obtain rfl : s = ⟨⟨st, id, l⟩, Ai, ci, Av2, cv2⟩ := by simpa using hs
            exact ⟨Hid1.out.1, Hid1.out.2, hle2, HV5.out⟩
      case measure => simp [intOf]; omega
    · have hii : i = r.sts.length := by omega
      subst hii
      rw [List.take_length] at HSS1
      go_wp2
      exact HH.out _ _ _ _ ⟨rfl, rfl, rfl, rfl, rfl⟩ HG1.out HO1.out HRow1.out HSS1.out
set_option maxHeartbeats 4000000 in
theorem p5_4 {Q : Exit → Act → World → Prop} {W : World} {r : IR} {B1 B2 O co c cs : Nat} {Ao A As : Option Addr} {a : Act} (hI : I5 B1 B2 O a) (hO : W.heap[O]? = some (.cells (r.sc Ao co A c As cs) 39 (0, 0))) (hB : W.heap[B2]? = some (.cells zero39 39 (0, 0)))
    (h : ∀ a', a'.defers = [] → a'.tmps.getD 2 undef = .pointer (some ⟨B2, 0, none⟩) → Q .normal a' (setL W B2 0 [.int .i64 r.op, .slice Ao r.opts.length co, .string r.text, .slice r.Ai r.id.length r.ci, .int .i64 r.q.cons, .bool r.q.skip, .slice A r.q.vals.length c, .int .i64 r.q.page, .slice r.q.A4 r.q.paging.length r.q.c4, .int .i64 r.q.serial, .slice r.q.A6 r.q.ts.length r.q.c6, .slice r.Ae r.ev.length r.ce, .int .i64 r.batch, .slice As r.sts.length cs, .slice r.Ad r.data.length r.cd])) : Code.wp Tryz.prog (c5 4) Q a W := by
  have k0 : W.cell? ⟨O, 0, none⟩ = some (.int .i64 r.op) := (cell_of_row _ _ 0 _ _ _ hO).trans rfl
  have k1 : W.cell? ⟨O, 1, none⟩ = some (.slice Ao r.opts.length co) := (cell_of_row _ _ 1 _ _ _ hO).trans rfl
  have k2 : W.cell? ⟨O, 2, none⟩ = some (.string r.text) := (cell_of_row _ _ 2 _ _ _ hO).trans rfl
  have k3 : W.cell? ⟨O, 3, none⟩ = some (.slice r.Ai r.id.length r.ci) := (cell_of_row _ _ 3 _ _ _ hO).trans rfl
  have k4 : W.cell? ⟨O, 4, none⟩ = some (.int .i64 r.q.cons) := (cell_of_row _ _ 4 _ _ _ hO).trans rfl
  have k5 : W.cell? ⟨O, 5, none⟩ = some (.bool r.q.skip) := (cell_of_row _ _ 5 _ _ _ hO).trans rfl
  have k6 : W.cell? ⟨O, 6, none⟩ = some (.slice A r.q.vals.length c) := (cell_of_row _ _ 6 _ _ _ hO).trans rfl
  have k7 : W.cell? ⟨O, 7, none⟩ = some (.int .i64 r.q.page) := (cell_of_row _ _ 7 _ _ _ hO).trans rfl
  have k8 : W.cell? ⟨O, 8, none⟩ = some (.slice r.q.A4 r.q.paging.length r.q.c4) := (cell_of_row _ _ 8 _ _ _ hO).trans rfl
  have k9 : W.cell? ⟨O, 9, none⟩ = some (.int .i64 r.q.serial) := (cell_of_row _ _ 9 _ _ _ hO).trans rfl
  have k10 : W.cell? ⟨O, 10, none⟩ = some (.slice r.q.A6 r.q.ts.length r.q.c6) := (cell_of_row _ _ 10 _ _ _ hO).trans rfl
  have k11 : W.cell? ⟨O, 11, none⟩ = some (.slice r.Ae r.ev.length r.ce) := (cell_of_row _ _ 11 _ _ _ hO).trans rfl
  have k12 : W.cell? ⟨O, 12, none⟩ = some (.int .i64 r.batch) := (cell_of_row _ _ 12 _ _ _ hO).trans rfl
  have k13 : W.cell? ⟨O, 13, none⟩ = some (.slice As r.sts.length cs) := (cell_of_row _ _ 13 _ _ _ hO).trans rfl
  have k14 : W.cell? ⟨O, 14, none⟩ = some (.slice r.Ad r.data.length r.cd) := (cell_of_row _ _ 14 _ _ _ hO).trans rfl
  have z0 : W.cell? ⟨B2, 0, none⟩ = some (.int .i64 0) := (cell_of_row _ _ 0 _ _ _ hB).trans rfl
  have z1 : W.cell? ⟨B2, 1, none⟩ = some (.slice none 0 0) := (cell_of_row _ _ 1 _ _ _ hB).trans rfl
  have z2 : W.cell? ⟨B2, 2, none⟩ = some (.string ⟨#[]⟩) := (cell_of_row _ _ 2 _ _ _ hB).trans rfl
  have z3 : W.cell? ⟨B2, 3, none⟩ = some (.slice none 0 0) := (cell_of_row _ _ 3 _ _ _ hB).trans rfl
  have z4 : W.cell? ⟨B2, 4, none⟩ = some (.int .i64 0) := (cell_of_row _ _ 4 _ _ _ hB).trans rfl
  have z5 : W.cell? ⟨B2, 5, none⟩ = some (.bool false) := (cell_of_row _ _ 5 _ _ _ hB).trans rfl
  have z6 : W.cell? ⟨B2, 6, none⟩ = some (.slice none 0 0) := (cell_of_row _ _ 6 _ _ _ hB).trans rfl
  have z7 : W.cell? ⟨B2, 7, none⟩ = some (.int .i64 0) := (cell_of_row _ _ 7 _ _ _ hB).trans rfl
  have z8 : W.cell? ⟨B2, 8, none⟩ = some (.slice none 0 0) := (cell_of_row _ _ 8 _ _ _ hB).trans rfl
  have z9 : W.cell? ⟨B2, 9, none⟩ = some (.int .i64 0) := (cell_of_row _ _ 9 _ _ _ hB).trans rfl
  have z10 : W.cell? ⟨B2, 10, none⟩ = some (.slice none 0 0) := (cell_of_row _ _ 10 _ _ _ hB).trans rfl
  have z11 : W.cell? ⟨B2, 11, none⟩ = some (.slice none 0 0) := (cell_of_row _ _ 11 _ _ _ hB).trans rfl
  have z12 : W.cell? ⟨B2, 12, none⟩ = some (.int .i64 0) := (cell_of_row _ _ 12 _ _ _ hB).trans rfl
  have z13 : W.cell? ⟨B2, 13, none⟩ = some (.slice none 0 0) := (cell_of_row _ _ 13 _ _ _ hB).trans rfl
  have z14 : W.cell? ⟨B2, 14, none⟩ = some (.slice none 0 0) := (cell_of_row _ _ 14 _ _ _ hB).trans rfl
  have hf : ∀ i, W.frozen? ⟨B2, i, none⟩ = false := fun i => blk_froz hB
  have HH := Lib.hid h
  clear hO hB h
  obtain ⟨g, rfl⟩ := hI.open_
  clear hI
  conv => arg 2; whnf
  go_wp2
  have hh := HH.out
  simp only [setL, Nat.zero_add, Nat.reduceAdd] at hh
  exact hh _ rfl rfl
theorem body5 : Tryz.f5.body = some ((c5 0).seq ((c5 1).seq ((c5 2).seq ((c5 3).seq ((c5 4).seq (t5 5)))))) := rfl
theorem t5_5 : t5 5 = .ret := rfl
attribute [local irreducible] c5 t5
theorem results_c {P : Program} {fn : Func} {p : Tmp} {ty : TypeId} (h : fn.results = #[.cell p ty]) (tmps : Array Value) (w : World) (g : Nat) (t : TypeId) (cs : Array Value) (fr : Nat × Nat) (d : TypeDesc)
    (hp : tmps.getD p undef = .pointer (some ⟨g, 0, none⟩)) (hg : w.heap[g]? = some (.cells cs t fr))
    (hu : P.underlying ty = some d) (hd : (match d with | .struct _ | .array _ _ => true | _ => false) = true) (hi : (P.info? ty).map (·.size) = some cs.size) :
    (results fn tmps).run P w = .ok (.agg cs) w := by
  have hp' : tmps[p]?.getD undef = .pointer (some ⟨g, 0, none⟩) := by simpa using hp
  simp [results, h, hp', asAddr, run_loadVar_row w g t ty cs fr d hg hu hd hi]
set_option maxHeartbeats 1000000 in
theorem request_any (w : World) (r : IR) (hI : r.In w) (h1 : r.opts.length ≤ 2147483647) (h2 : r.q.vals.length ≤ 2147483647) (h3 : r.sts.length ≤ 2147483647) (h4 : ∀ x ∈ r.sts, x.f2.length ≤ 2147483647) :
    Calls Tryz.prog 5 #[.agg r.cells] w fun e w' => ∃ Ao co A c As cs, e = .returned (.agg (r.sc Ao co A c As cs)) ∧ Below w.heap.size w w' ∧ r.SIn w' Ao A As ∧ r.q.vals.length ≤ c := by
  refine p5_1 w r hI h2 fun a W O A c hI5 hF => ?_
  have hG : G5 w r O A c (.slice none 0 0) (.slice none 0 0) W := hF
  refine wp_seq (p5_2 hI5 hG hI.1 h1 fun a2 W2 vo hI2 hG2 hO2 => ?_)
  refine wp_seq (p5_3 hI2 hG2 hO2 hI.2.2.2.2.1 h3 h4 fun a3 W3 vs ss hI3 hG3 hO3 hR3 hS3 => ?_)
  obtain ⟨Ao, co, hvo, hleo⟩ := OwnRow.slice_ hO3
  rw [List.length_map] at hvo hleo
  subst hvo
  obtain ⟨As, cs, hvs⟩ := own_slice hR3
  subst hvs
  have hbe := hG3.1
  have hB2 := hG3.2.2.2.1
  have hge : w.heap.size ≤ w.heap.size + 1 := by omega
  refine wp_seq (p5_4 hI3 hG3.2.1 hB2 fun a4 hd4 h24 => ?_)
  generalize hW4 : setL W3 (w.heap.size + 1) 0 [.int .i64 r.op, .slice Ao r.opts.length co, .string r.text, .slice r.Ai r.id.length r.ci, .int .i64 r.q.cons, .bool r.q.skip, .slice A r.q.vals.length c, .int .i64 r.q.page, .slice r.q.A4 r.q.paging.length r.q.c4, .int .i64 r.q.serial, .slice r.q.A6 r.q.ts.length r.q.c6, .slice r.Ae r.ev.length r.ce, .int .i64 r.batch, .slice As r.sts.length cs, .slice r.Ad r.data.length r.cd] = W4
  have hB4 : W4.heap[w.heap.size + 1]? = some (.cells (r.sc Ao co A c As cs) 39 (0, 0)) := by
    rw [← hW4]
    refine (setL_at _ W3 0 _ hB2).trans ?_
    simp only [setC, Nat.zero_add, Nat.reduceAdd, List.setIfInBounds_toArray, List.set_cons_zero, List.set_cons_succ]
  have hb4 : Below w.heap.size w W4 := by rw [← hW4]; exact setL_below hge _ _ _ hbe
  have hown : ∀ base e size v n cs, e ≠ 39 → W3.ownsRow base e size v n cs → W4.ownsRow base e size v n cs := by
    intro base e size v n cs he h
    rw [← hW4]
    exact setL_own (own_ne h hB2 he) _ _ _ h
  have hO4 : OwnRow (fun x cs => k54.K w x cs) 54 2 W4 w.heap.size (.slice Ao r.opts.length co) (r.opts.map c54) := by
    obtain ⟨inner, g1, g2⟩ := hO3
    exact ⟨inner, hown _ _ _ _ _ _ (by decide) g1, g2⟩
  have hM : ∀ v ps, OwnRow (fun x cs => k87.K w x cs) 87 4 W3 w.heap.size v ps → OwnRow (fun x cs => k87.K w x cs) 87 4 W4 w.heap.size v ps := by
    rintro v ps ⟨inner, g1, g2⟩
    exact ⟨inner, hown _ _ _ _ _ _ (by decide) g1, g2⟩
  have hV4 := hM _ _ hG3.2.2.2.2.2.1
  have hS4 := hS3.map hM
  have hR4 := hown _ _ _ _ _ _ (by decide) hR3
  have hsl : r.sts.length = ss.length := by rw [← hS4.1, List.length_map]
  have kO : Kd.C k54 W4 Ao r.opts.length (r.opts.map c54) := by
    obtain ⟨A', c', hv, _, hr⟩ := (hO4.imp_ fun _ _ hk => k54.K_below hb4 hk).reads
    rw [List.length_map] at hv hr
    injection hv with hA _ _
    subst hA
    exact hr
  have kV : Kd.C k87 W4 A r.q.vals.length (r.q.vals.map c87) := by
    obtain ⟨A', c', hv, _, hr⟩ := (OwnRow.imp_ hV4 fun _ _ hk => k87.K_below hb4 hk).reads
    rw [List.length_map] at hv hr
    injection hv with hA _ _
    subst hA
    exact hr
  have kS := hS4.C hb4 hsl (by omega) hR4
  rw [t5_5]
  refine wp_ret ?_
  refine bodyPost_ret (v := .agg (r.sc Ao co A c As cs)) ?_ hd4 ⟨Ao, co, A, c, As, cs, rfl, hb4, ⟨kO, Kd.C_below hI.2.1 hb4, ⟨kV, Kd.C_below hI.2.2.1.2.1 hb4, Kd.C_below hI.2.2.1.2.2 hb4⟩, Kd.C_below hI.2.2.2.1 hb4, kS, Kd.C_below hI.2.2.2.2.2 hb4⟩, hG3.2.2.2.2.2.2⟩
  exact results_c (P := Tryz.prog) (fn := Tryz.f5) (p := 2) (ty := 39) rfl a4.tmps W4 _ 39 _ _ _ h24 hB4 Tryz.underlying39 rfl (by kernel_rfl)
end Go.Proofs.YtammjbmfiakbnaaGreatDoor
