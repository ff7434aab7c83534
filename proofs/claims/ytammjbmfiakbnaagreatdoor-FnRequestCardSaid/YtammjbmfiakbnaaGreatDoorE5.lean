/-
  The reference's checks: a proper query. The reference's checks: what they say in the words of the claim.
-/
import Derived.Test.YtammjbmfiakbnaaGreatDoorE3
import Derived.Test.YtammjbmfiakbnaaGreatDoorT2
namespace Go.Proofs.YtammjbmfiakbnaaGreatDoor
set_option maxHeartbeats 2000000
set_option maxRecDepth 100000
set_option linter.unusedSimpArgs false
set_option linter.unusedVariables false
open Go.RowKit Go.Proofs.YtammjbmfiakbnaaGreatDoorW.PrintWords Go.Proofs.YtammjbmfiakbnaaGreatDoorW.PrintLast Go.Proofs.YtammjbmfiakbnaaGreatDoorW.PrintMore
open Go.Proofs.YtammjbmfiakbnaaGreatDoor.PFnRequest
theorem fr69 (a : Act) (hd : a.defers = []) (hs : a.tmps.size = 69) : ∃ g : Nat → Value, a = ⟨#[g 0, g 1, g 2, g 3, g 4, g 5, g 6, g 7, g 8, g 9, g 10, g 11, g 12, g 13, g 14, g 15, g 16, g 17, g 18, g 19, g 20, g 21, g 22, g 23, g 24, g 25, g 26, g 27, g 28, g 29, g 30, g 31, g 32, g 33, g 34, g 35, g 36, g 37, g 38, g 39, g 40, g 41, g 42, g 43, g 44, g 45, g 46, g 47, g 48, g 49, g 50, g 51, g 52, g 53, g 54, g 55, g 56, g 57, g 58, g 59, g 60, g 61, g 62, g 63, g 64, g 65, g 66, g 67, g 68], []⟩ := by
  have e := frame_open 69 a hd hs
  have e2 : ((List.range 69).map (fun t => a.tmps.getD t undef)).toArray = #[a.tmps.getD 0 undef, a.tmps.getD 1 undef, a.tmps.getD 2 undef, a.tmps.getD 3 undef, a.tmps.getD 4 undef, a.tmps.getD 5 undef, a.tmps.getD 6 undef, a.tmps.getD 7 undef, a.tmps.getD 8 undef, a.tmps.getD 9 undef, a.tmps.getD 10 undef, a.tmps.getD 11 undef, a.tmps.getD 12 undef, a.tmps.getD 13 undef, a.tmps.getD 14 undef, a.tmps.getD 15 undef, a.tmps.getD 16 undef, a.tmps.getD 17 undef, a.tmps.getD 18 undef, a.tmps.getD 19 undef, a.tmps.getD 20 undef, a.tmps.getD 21 undef, a.tmps.getD 22 undef, a.tmps.getD 23 undef, a.tmps.getD 24 undef, a.tmps.getD 25 undef, a.tmps.getD 26 undef, a.tmps.getD 27 undef, a.tmps.getD 28 undef, a.tmps.getD 29 undef, a.tmps.getD 30 undef, a.tmps.getD 31 undef, a.tmps.getD 32 undef, a.tmps.getD 33 undef, a.tmps.getD 34 undef, a.tmps.getD 35 undef, a.tmps.getD 36 undef, a.tmps.getD 37 undef, a.tmps.getD 38 undef, a.tmps.getD 39 undef, a.tmps.getD 40 undef, a.tmps.getD 41 undef, a.tmps.getD 42 undef, a.tmps.getD 43 undef, a.tmps.getD 44 undef, a.tmps.getD 45 undef, a.tmps.getD 46 undef, a.tmps.getD 47 undef, a.tmps.getD 48 undef, a.tmps.getD 49 undef, a.tmps.getD 50 undef, a.tmps.getD 51 undef, a.tmps.getD 52 undef, a.tmps.getD 53 undef, a.tmps.getD 54 undef, a.tmps.getD 55 undef, a.tmps.getD 56 undef, a.tmps.getD 57 undef, a.tmps.getD 58 undef, a.tmps.getD 59 undef, a.tmps.getD 60 undef, a.tmps.getD 61 undef, a.tmps.getD 62 undef, a.tmps.getD 63 undef, a.tmps.getD 64 undef, a.tmps.getD 65 undef, a.tmps.getD 66 undef, a.tmps.getD 67 undef, a.tmps.getD 68 undef] := rfl
  exact ⟨fun t => a.tmps.getD t undef, e.trans (by rw [e2])⟩
/-- Where the region stands: slot k holds a test of what is before. -/
def J18 (w0 : World) (v : Int) (cs : Array Value) (k : Nat) (P : Prop) (a : Act) (w : World) : Prop := a.defers = [] ∧ a.tmps.size = 69 ∧ a.tmps.getD 0 undef = .int .i64 v ∧ a.tmps.getD 3 undef = .pointer (some ⟨w0.heap.size, 0, none⟩) ∧ (∃ b, a.tmps.getD k undef = .bool b ∧ (b = true → P)) ∧ Below w0.heap.size w0 w ∧ w.heap[w0.heap.size]? = some (.cells cs 36 (0, 0))
/-- What a proper query is. -/
def PQ (cons page serial : Int) (m4 : Nat) (xs : List S87) (ts : List Int) : Prop := 0 ≤ cons ∧ cons ≤ 10 ∧ (xs.length ≤ 20 ∧ ∀ x ∈ xs, x.f3.length ≤ 100 ∧ x.f0.size ≤ 100 ∧ NE true x.f0) ∧ 0 ≤ page ∧ page ≤ 2147483647 ∧ m4 ≤ 100 ∧ 0 ≤ serial ∧ serial ≤ 9 ∧ ts.length ≤ 1
attribute [local irreducible] wpList
set_option maxHeartbeats 20000000 in
theorem proper_q (w : World) (v cons page serial : Int) (skip : Bool) (A A4 A6 : Option Addr) (c c4 c6 m4 : Nat) (xs : List S87) (ts : List Int) (hC : Kd.C k87 w A xs.length xs) (hle : xs.length ≤ c) (hF : ∀ x ∈ xs, Ft x.f0.size) (hT : (Kd.int .i64).C w A6 ts.length ts) :
    Calls Tryz.prog 18 #[.int .i64 v, .agg #[.int .i64 cons, .bool skip, .slice A xs.length c, .int .i64 page, .slice A4 m4 c4, .int .i64 serial, .slice A6 ts.length c6]] w
      (Yes w (PQ cons page serial m4 xs ts)) := by
  have HC := Lib.hid hC
  have HF := Lib.hid hF
  have HT := Lib.hid (Kd.reads_of_C (d := (0 : Int)) hT)
  clear hC hF hT
  have hts : 0 < ts.length → ∃ ad, A6 = some ad ∧ w.cell? ad = some (.int .i64 (rdOf 0 ts 0)) := fun h => by
    obtain ⟨ad, e, hc⟩ := HT.out.at_ (0 : Int) (by omega) (by omega)
    exact ⟨ad, e, by simpa [Addr.add_zero'] using hc⟩
  have HTS := Lib.hid hts
  clear hts
  go_enter Tryz.func18, Tryz.ntmps18
  go_upto_region 1 with (fail)
  conv => arg 2; arg 2; whnf
  simp only [List.append]
  have hB := below_alloc (Below.refl w.heap.size w) (.cells (#[.int .i64 cons, .bool skip, .slice A xs.length c, .int .i64 page, .slice A4 m4 c4, .int .i64 serial, .slice A6 ts.length c6] : Array Value) 36)
  have hK := heap_alloc_new w (.cells (#[.int .i64 cons, .bool skip, .slice A xs.length c, .int .i64 page, .slice A4 m4 c4, .int .i64 serial, .slice A6 ts.length c6] : Array Value) 36)
  have c0 := (cell_of_row _ _ 0 _ _ _ hK).trans rfl
  refine l_start ?_
  refine l_cut 0 8 (J18 w v (#[.int .i64 cons, .bool skip, .slice A xs.length c, .int .i64 page, .slice A4 m4 c4, .int .i64 serial, .slice A6 ts.length c6] : Array Value) 12 (0 ≤ cons ∧ cons ≤ 10)) ?_ (fun C0 => ?_)
  rotate_left
  · have C := Lib.hid C0
    clear C0
    by_cases h1 : 0 ≤ cons
    · have d1 : decide (0 ≤ cons) = true := decide_eq_true h1
      iterate 8 (first | refine l_f ?_ | refine l_o ?_)
      exact C.out _ _ ⟨rfl, rfl, rfl, rfl, ⟨_, rfl, fun h => ⟨h1, by simpa using h⟩⟩, hB, hK⟩
    · have d1 : decide (0 ≤ cons) = false := decide_eq_false h1
      iterate 8 (first | refine l_f ?_ | refine l_o ?_)
      exact C.out _ _ ⟨rfl, rfl, rfl, rfl, ⟨_, rfl, fun h => by cases h⟩, hB, hK⟩
  clear hB hK c0
  intro a wr hJ
  obtain ⟨hd, hs, h0, h3, ⟨b, hb, hP⟩, hB, hK⟩ := hJ
  obtain ⟨g, rfl⟩ := fr69 a hd hs
  have g0 : g 0 = .int .i64 v := h0
  have g3 : g 3 = .pointer (some ⟨w.heap.size, 0, none⟩) := h3
  have gk : g 12 = .bool b := hb
  rw [g0, g3, gk]
  clear hd hs h0 h3 hb g0 g3 gk
  refine l_cut 8 14 (J18 w v (#[.int .i64 cons, .bool skip, .slice A xs.length c, .int .i64 page, .slice A4 m4 c4, .int .i64 serial, .slice A6 ts.length c6] : Array Value) 18 (0 ≤ cons ∧ cons ≤ 10 ∧ (xs.length ≤ 20 ∧ ∀ x ∈ xs, x.f3.length ≤ 100 ∧ x.f0.size ≤ 100 ∧ NE true x.f0))) ?_ (fun C0 => ?_)
  rotate_left
  · have C := Lib.hid C0
    clear C0
    cases b with
    | false =>
      clear hP
      iterate 6 (first | refine l_f ?_ | refine l_o ?_)
      exact C.out _ _ ⟨rfl, rfl, rfl, rfl, ⟨_, rfl, fun h => by cases h⟩, hB, hK⟩
    | true =>
      have hp := hP rfl
      have c2 := (cell_of_row _ _ 2 _ _ _ hK).trans rfl
      iterate 4 (first | refine l_f ?_ | refine l_o ?_)
      refine l_any 12 (N := some 17) rfl rfl fun K hK0 => ?_
      refine goes_ Tryz.func35 (by kernel_rfl) rfl #[.int .i64 v, .slice A xs.length c, .bool true] (by rfl) rfl rfl (by simp only [List.map_toArray, List.map_cons, List.map_nil]; rfl) ?_
      with_reducible refine (sparams_any wr A c xs v true (Kd.C_below HC.out hB) hle HF.out).mono ?_
      rintro e w3 ⟨b3, rfl, hb3, hP3⟩
      refine ⟨_, rfl, ?_⟩
      refine hK0.out _ _ ?_
      clear hK0 K
      refine l_norm (by (show Act.put _ (some 17) _ = _; simp only [Act.put, List.setIfInBounds_toArray, List.set_cons_zero, List.set_cons_succ, i64_w, i32_w]; rfl)) ?_
      first | refine l_f ?_ | refine l_o ?_
      exact C.out _ _ ⟨rfl, rfl, rfl, rfl, ⟨_, rfl, fun h => ⟨hp.1, hp.2, hP3 h⟩⟩, (below_then hB hB.size hb3), (blk_below hK hb3)⟩
  intro a wr hJ
  obtain ⟨hd, hs, h0, h3, ⟨b, hb, hP⟩, hB, hK⟩ := hJ
  obtain ⟨g, rfl⟩ := fr69 a hd hs
  have g0 : g 0 = .int .i64 v := h0
  have g3 : g 3 = .pointer (some ⟨w.heap.size, 0, none⟩) := h3
  have gk : g 18 = .bool b := hb
  rw [g0, g3, gk]
  clear hd hs h0 h3 hb g0 g3 gk
  refine l_cut 14 19 (J18 w v (#[.int .i64 cons, .bool skip, .slice A xs.length c, .int .i64 page, .slice A4 m4 c4, .int .i64 serial, .slice A6 ts.length c6] : Array Value) 23 (0 ≤ cons ∧ cons ≤ 10 ∧ (xs.length ≤ 20 ∧ ∀ x ∈ xs, x.f3.length ≤ 100 ∧ x.f0.size ≤ 100 ∧ NE true x.f0) ∧ 0 ≤ page)) ?_ (fun C0 => ?_)
  rotate_left
  · have C := Lib.hid C0
    clear C0
    cases b with
    | false =>
      clear hP
      iterate 5 (first | refine l_f ?_ | refine l_o ?_)
      exact C.out _ _ ⟨rfl, rfl, rfl, rfl, ⟨_, rfl, fun h => by cases h⟩, hB, hK⟩
    | true =>
      have hp := hP rfl
      have c3 := (cell_of_row _ _ 3 _ _ _ hK).trans rfl
      iterate 5 (first | refine l_f ?_ | refine l_o ?_)
      exact C.out _ _ ⟨rfl, rfl, rfl, rfl, ⟨_, rfl, fun h => ⟨hp.1, hp.2.1, hp.2.2, by simpa using h⟩⟩, hB, hK⟩
  intro a wr hJ
  obtain ⟨hd, hs, h0, h3, ⟨b, hb, hP⟩, hB, hK⟩ := hJ
  obtain ⟨g, rfl⟩ := fr69 a hd hs
  have g0 : g 0 = .int .i64 v := h0
  have g3 : g 3 = .pointer (some ⟨w.heap.size, 0, none⟩) := h3
  have gk : g 23 = .bool b := hb
  rw [g0, g3, gk]
  clear hd hs h0 h3 hb g0 g3 gk
  refine l_cut 19 24 (J18 w v (#[.int .i64 cons, .bool skip, .slice A xs.length c, .int .i64 page, .slice A4 m4 c4, .int .i64 serial, .slice A6 ts.length c6] : Array Value) 28 (0 ≤ cons ∧ cons ≤ 10 ∧ (xs.length ≤ 20 ∧ ∀ x ∈ xs, x.f3.length ≤ 100 ∧ x.f0.size ≤ 100 ∧ NE true x.f0) ∧ 0 ≤ page ∧ page ≤ 2147483647)) ?_ (fun C0 => ?_)
  rotate_left
  · have C := Lib.hid C0
    clear C0
    cases b with
    | false =>
      clear hP
      iterate 5 (first | refine l_f ?_ | refine l_o ?_)
      exact C.out _ _ ⟨rfl, rfl, rfl, rfl, ⟨_, rfl, fun h => by cases h⟩, hB, hK⟩
    | true =>
      have hp := hP rfl
      have c3 := (cell_of_row _ _ 3 _ _ _ hK).trans rfl
      iterate 5 (first | refine l_f ?_ | refine l_o ?_)
      exact C.out _ _ ⟨rfl, rfl, rfl, rfl, ⟨_, rfl, fun h => ⟨hp.1, hp.2.1, hp.2.2.1, hp.2.2.2, by simp at h; omega⟩⟩, hB, hK⟩
  intro a wr hJ
  obtain ⟨hd, hs, h0, h3, ⟨b, hb, hP⟩, hB, hK⟩ := hJ
  obtain ⟨g, rfl⟩ := fr69 a hd hs
  have g0 : g 0 = .int .i64 v := h0
  have g3 : g 3 = .pointer (some ⟨w.heap.size, 0, none⟩) := h3
  have gk : g 28 = .bool b := hb
  rw [g0, g3, gk]
  clear hd hs h0 h3 hb g0 g3 gk
  refine l_cut 24 30 (J18 w v (#[.int .i64 cons, .bool skip, .slice A xs.length c, .int .i64 page, .slice A4 m4 c4, .int .i64 serial, .slice A6 ts.length c6] : Array Value) 34 (0 ≤ cons ∧ cons ≤ 10 ∧ (xs.length ≤ 20 ∧ ∀ x ∈ xs, x.f3.length ≤ 100 ∧ x.f0.size ≤ 100 ∧ NE true x.f0) ∧ 0 ≤ page ∧ page ≤ 2147483647 ∧ m4 ≤ 100)) ?_ (fun C0 => ?_)
  rotate_left
  · have C := Lib.hid C0
    clear C0
    cases b with
    | false =>
      clear hP
      iterate 6 (first | refine l_f ?_ | refine l_o ?_)
      exact C.out _ _ ⟨rfl, rfl, rfl, rfl, ⟨_, rfl, fun h => by cases h⟩, hB, hK⟩
    | true =>
      have hp := hP rfl
      have c4 := (cell_of_row _ _ 4 _ _ _ hK).trans rfl
      iterate 6 (first | refine l_f ?_ | refine l_o ?_)
      exact C.out _ _ ⟨rfl, rfl, rfl, rfl, ⟨_, rfl, fun h => ⟨hp.1, hp.2.1, hp.2.2.1, hp.2.2.2.1, hp.2.2.2.2, by simp at h; omega⟩⟩, hB, hK⟩
  intro a wr hJ
  obtain ⟨hd, hs, h0, h3, ⟨b, hb, hP⟩, hB, hK⟩ := hJ
  obtain ⟨g, rfl⟩ := fr69 a hd hs
  have g0 : g 0 = .int .i64 v := h0
  have g3 : g 3 = .pointer (some ⟨w.heap.size, 0, none⟩) := h3
  have gk : g 34 = .bool b := hb
  rw [g0, g3, gk]
  clear hd hs h0 h3 hb g0 g3 gk
  refine l_cut 30 45 (J18 w v (#[.int .i64 cons, .bool skip, .slice A xs.length c, .int .i64 page, .slice A4 m4 c4, .int .i64 serial, .slice A6 ts.length c6] : Array Value) 49 (0 ≤ cons ∧ cons ≤ 10 ∧ (xs.length ≤ 20 ∧ ∀ x ∈ xs, x.f3.length ≤ 100 ∧ x.f0.size ≤ 100 ∧ NE true x.f0) ∧ 0 ≤ page ∧ page ≤ 2147483647 ∧ m4 ≤ 100 ∧ 0 ≤ serial ∧ serial ≤ 9)) ?_ (fun C0 => ?_)
  rotate_left
  · have C := Lib.hid C0
    clear C0
    cases b with
    | false =>
      clear hP
      iterate 15 (first | refine l_f ?_ | refine l_o ?_)
      exact C.out _ _ ⟨rfl, rfl, rfl, rfl, ⟨_, rfl, fun h => by cases h⟩, hB, hK⟩
    | true =>
      have hp := hP rfl
      have c5 := (cell_of_row _ _ 5 _ _ _ hK).trans rfl
      by_cases hs0 : serial = 0
      · have e0 : (serial == 0) = true := beq_iff_eq.2 hs0
        iterate 15 (first | refine l_f ?_ | refine l_o ?_)
        exact C.out _ _ ⟨rfl, rfl, rfl, rfl, ⟨_, rfl, fun h => ⟨hp.1, hp.2.1, hp.2.2.1, hp.2.2.2.1, hp.2.2.2.2.1, hp.2.2.2.2.2, by omega⟩⟩, hB, hK⟩
      · have e0 : (serial == 0) = false := beq_eq_false_iff_ne.2 hs0
        by_cases hs8 : serial = 8
        · have e8 : (serial == 8) = true := beq_iff_eq.2 hs8
          iterate 15 (first | refine l_f ?_ | refine l_o ?_)
          exact C.out _ _ ⟨rfl, rfl, rfl, rfl, ⟨_, rfl, fun h => ⟨hp.1, hp.2.1, hp.2.2.1, hp.2.2.2.1, hp.2.2.2.2.1, hp.2.2.2.2.2, by omega⟩⟩, hB, hK⟩
        · have e8 : (serial == 8) = false := beq_eq_false_iff_ne.2 hs8
          iterate 15 (first | refine l_f ?_ | refine l_o ?_)
          exact C.out _ _ ⟨rfl, rfl, rfl, rfl, ⟨_, rfl, fun h => ⟨hp.1, hp.2.1, hp.2.2.1, hp.2.2.2.1, hp.2.2.2.2.1, hp.2.2.2.2.2, by simp at h; omega⟩⟩, hB, hK⟩
  intro a wr hJ
  obtain ⟨hd, hs, h0, h3, ⟨b, hb, hP⟩, hB, hK⟩ := hJ
  obtain ⟨g, rfl⟩ := fr69 a hd hs
  have g0 : g 0 = .int .i64 v := h0
  have g3 : g 3 = .pointer (some ⟨w.heap.size, 0, none⟩) := h3
  have gk : g 49 = .bool b := hb
  rw [g0, g3, gk]
  clear hd hs h0 h3 hb g0 g3 gk
  · skip
    cases b with
    | false =>
      clear hP
      iterate 20 (first | refine l_f ?_ | refine l_o ?_)
      refine l_done 65 rfl ?_
      simp only [Exit.then]
      refine (‹∀ (a : Act) (w : World), Code.wp Tryz.prog _ _ a w → _›) _ _ ?_
      go_wp2
      go_ret
      exact Yes.no hB
    | true =>
      have hp := hP rfl
      have c6 := (cell_of_row _ _ 6 _ _ _ hK).trans rfl
      by_cases hn0 : ts.length = 0
      · have e0 : ((ts.length : Int) == 0) = true := beq_iff_eq.2 (by omega)
        iterate 20 (first | refine l_f ?_ | refine l_o ?_)
        refine l_done 65 rfl ?_
        simp only [Exit.then]
        refine (‹∀ (a : Act) (w : World), Code.wp Tryz.prog _ _ a w → _›) _ _ ?_
        go_wp2
        go_ret
        exact Yes.yes hB ⟨hp.1, hp.2.1, hp.2.2.1, hp.2.2.2.1, hp.2.2.2.2.1, hp.2.2.2.2.2.1, hp.2.2.2.2.2.2.1, hp.2.2.2.2.2.2.2, by omega⟩
      · have e0 : ((ts.length : Int) == 0) = false := beq_eq_false_iff_ne.2 (by omega)
        by_cases hn1 : ts.length = 1
        · have e1 : ((ts.length : Int) == 1) = true := beq_iff_eq.2 (by omega)
          have hp0 : 0 < ts.length := by omega
          obtain ⟨ad, rfl, hc⟩ := HTS.out hp0
          have kc := pw_cell_below hB hc
          iterate 20 (first | refine l_f ?_ | refine l_o ?_)
          refine l_done 65 rfl ?_
          simp only [Exit.then]
          refine (‹∀ (a : Act) (w : World), Code.wp Tryz.prog _ _ a w → _›) _ _ ?_
          go_wp2
          go_ret
          exact ⟨_, rfl, hB, fun _ => ⟨hp.1, hp.2.1, hp.2.2.1, hp.2.2.2.1, hp.2.2.2.2.1, hp.2.2.2.2.2.1, hp.2.2.2.2.2.2.1, hp.2.2.2.2.2.2.2, by omega⟩⟩
        · have e1 : ((ts.length : Int) == 1) = false := beq_eq_false_iff_ne.2 (by omega)
          iterate 20 (first | refine l_f ?_ | refine l_o ?_)
          refine l_done 65 rfl ?_
          simp only [Exit.then]
          refine (‹∀ (a : Act) (w : World), Code.wp Tryz.prog _ _ a w → _›) _ _ ?_
          go_wp2
          go_ret
          exact Yes.no hB
theorem Yes.imp {w w' : World} {P P' : Prop} {e : Ending} (hp : P → P') (h : Yes w P e w') : Yes w P' e w' := by
  obtain ⟨b, e, hb, h⟩ := h
  exact ⟨b, e, hb, fun hh => hp (h hh)⟩
theorem proper_any (w : World) (v : Int) (q : IQ) (A : Option Addr) (c : Nat) (hI : q.SIn w A) (hle : q.vals.length ≤ c) (hF : ∀ x ∈ q.vals, Ft x.f0.size) :
    Calls Tryz.prog 18 #[.int .i64 v, .agg (q.sc A c)] w (Yes w (q.ok ∧ q.qp.ok)) := by
  have h := proper_q w v q.cons q.page q.serial q.skip A q.A4 q.A6 c q.c4 q.c6 q.paging.length (q.vals.map c87) q.ts (by rw [List.length_map]; exact hI.1) (by rw [List.length_map]; exact hle) (fun x hx => by
    obtain ⟨y, hy, rfl⟩ := List.mem_map.1 hx
    exact hF y hy) hI.2.2
  rw [List.length_map] at h
  refine h.mono fun e w' h => h.imp fun ⟨h1, h2, ⟨h3, h4⟩, h5, h6, h7, h8, h9, h10⟩ => ?_
  rw [List.length_map] at h3
  have hv : ∀ x ∈ q.vals, x.f3.length ≤ 100 ∧ x.f0.size ≤ 100 := fun x hx => by
    obtain ⟨g1, g2, _⟩ := h4 (c87 x) (List.mem_map.2 ⟨x, hx, rfl⟩)
    exact ⟨g1, g2⟩
  refine ⟨⟨h1, h2, h3, hv, h5, h6, h7, h8, h9, h10⟩, ?_, ?_, h5, h6, h7, h8⟩
  · simpa [IQ.qp] using h3
  · intro x hx
    obtain ⟨y, hy, rfl⟩ := List.mem_map.1 (show x ∈ q.vals.map qv from hx)
    obtain ⟨g1, g2⟩ := hv y hy
    refine ⟨g2, fun l hl => ?_⟩
    simp only [qv] at hl
    split at hl
    · cases hl
    · cases hl
      exact g1
theorem empty_of (s : ByteArray) (h : s.toList.isEmpty = true) : s = ⟨#[]⟩ := by
  rw [ByteArray.toList_eq] at h
  obtain ⟨d⟩ := s
  have h2 : d.toList = [] := by simpa using h
  have h3 : d = #[] := by
    apply Array.toList_inj.1
    simpa using h2
  rw [h3]
theorem sok_of {l : List S56} (h : ∀ x ∈ l.map c58, SOk x) : (∀ x ∈ l, x.f1.length ≤ 100 ∧ x.f2.length ≤ 20 ∧ ∀ y ∈ x.f2, y.f3.length ≤ 100) ∧ (∀ x ∈ l.map sv, x.ok) := by
  have hh : ∀ x ∈ l, x.f0.size ≤ 100 ∧ x.f1.length ≤ 100 ∧ x.f2.length ≤ 20 ∧ ∀ y ∈ x.f2, y.f3.length ≤ 100 ∧ y.f0 = ⟨#[]⟩ := fun x hx => by
    obtain ⟨g1, g2, g3, g4⟩ := h (c58 x) (List.mem_map.2 ⟨x, hx, rfl⟩)
    refine ⟨g1, g2, by simpa [c58] using g3, fun y hy => ?_⟩
    obtain ⟨k1, _, k3⟩ := g4 (c87 y) (List.mem_map.2 ⟨y, hy, rfl⟩)
    exact ⟨k1, empty_of _ (k3 rfl)⟩
  refine ⟨fun x hx => ?_, fun x hx => ?_⟩
  · obtain ⟨_, g2, g3, g4⟩ := hh x hx
    exact ⟨g2, g3, fun y hy => (g4 y hy).1⟩
  · obtain ⟨y, hy, rfl⟩ := List.mem_map.1 hx
    obtain ⟨g1, g2, g3, g4⟩ := hh y hy
    refine ⟨g2, g1, by simpa [sv] using g3, fun z hz => ?_⟩
    obtain ⟨u, hu, rfl⟩ := List.mem_map.1 (show z ∈ y.f2.map qv from hz)
    obtain ⟨k1, k2⟩ := g4 u hu
    refine ⟨⟨by show u.f0.size ≤ 100; rw [k2]; decide, fun l hl => ?_⟩, k2⟩
    simp only [qv] at hl
    split at hl
    · cases hl
    · cases hl
      exact k1
end Go.Proofs.YtammjbmfiakbnaaGreatDoor
