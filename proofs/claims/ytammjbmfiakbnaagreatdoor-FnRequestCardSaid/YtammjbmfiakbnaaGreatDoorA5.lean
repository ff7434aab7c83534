/-
  The reference's frame of a request: a frame; the beginning and the end of Asked. The reference's frame of a request: what each operation writes.
-/
import Derived.Test.YtammjbmfiakbnaaGreatDoorA3
import Derived.Test.YtammjbmfiakbnaaGreatDoorT2
namespace Go.Proofs.YtammjbmfiakbnaaGreatDoor
set_option maxHeartbeats 2000000
set_option maxRecDepth 100000
set_option linter.unusedSimpArgs false
set_option linter.unusedVariables false
open Go.RowKit Go.Proofs.YtammjbmfiakbnaaGreatDoorW.PrintWords Go.Proofs.YtammjbmfiakbnaaGreatDoorW.PrintLast Go.Proofs.YtammjbmfiakbnaaGreatDoorW.PrintMore
open Go.Proofs.YtammjbmfiakbnaaGreatDoor.PFnRequest
set_option maxHeartbeats 1000000 in
theorem frame_any (w : World) (p s op : Int) (body : List Int) (A : Option Addr) (c : Nat) (hp : p = 3 ∨ p = 4) (ho : 0 ≤ op ∧ op ≤ 255) (hl : body.length ≤ 100000000) (hr : ReadsInt w .u8 A body.length body) :
    Calls Tryz.prog 31 #[.int .i64 p, .int .i64 0, .int .i64 s, .int .i64 op, .slice A body.length c] w fun e w' => ∃ v, e = .returned v ∧ Out w w' v (frame p op s body) := by
  have HR := Lib.hid hr
  have hb1 : (w.alloc (.cells #[] 5)).heap.size = w.heap.size + 1 := by simp
  have ho1 := (own_empty w 5 w.heap.size 1 (Nat.le_refl _)).alloc (.cells #[.slice (some ⟨w.heap.size, 0, none⟩) 0 0] 81)
  have hg1 := heap_alloc_new (w.alloc (.cells #[] 5)) (.cells #[.slice (some ⟨w.heap.size, 0, none⟩) 0 0] 81)
  rw [hb1] at hg1
  have HW0 : Hid (Wr w ((w.alloc (.cells #[] 5)).alloc (.cells #[.slice (some ⟨w.heap.size, 0, none⟩) 0 0] 81)) (w.heap.size + 1) []) := Lib.hid ⟨below_alloc (below_alloc (Below.refl _ _) _) _, by omega, _, hg1, ho1⟩
  clear hr hb1 ho1 hg1
  go_enter Tryz.func31, Tryz.ntmps31
  go_wp2_with fail
  refine (put_any w (w.heap.size + 1) [] _ _ 1 _ rfl (by omega) (by simp) HW0.out).mono ?_
  rintro e w1 ⟨rfl, hW1, _⟩
  have HW1 := Lib.hid hW1
  clear hW1
  go_wp2_with fail
  refine (put_any w (w.heap.size + 1) _ _ _ 1 _ rfl (by omega) (by simp only [List.length_append, be_length, List.length_nil]; omega) HW1.out).mono ?_
  rintro e w2 ⟨rfl, hW2, _⟩
  have HW2 := Lib.hid hW2
  clear hW2
  go_wp2_with fail
  refine (put_any w (w.heap.size + 1) _ _ _ 2 _ rfl (by omega) (by simp only [List.length_append, be_length, List.length_nil]; omega) HW2.out).mono ?_
  rintro e w3 ⟨rfl, hW3, _⟩
  have HW3 := Lib.hid hW3
  clear hW3
  go_wp2_with fail
  refine (put_any w (w.heap.size + 1) _ _ _ 1 _ rfl (by omega) (by simp only [List.length_append, be_length, List.length_nil]; omega) HW3.out).mono ?_
  rintro e w4 ⟨rfl, hW4, _⟩
  have HW4 := Lib.hid hW4
  clear hW4
  go_wp2_with fail
  refine (block_any w (w.heap.size + 1) _ body A _ c _ rfl (by simp only [List.length_append, be_length, List.length_nil]; omega) HW4.out HR.out).mono ?_
  rintro e w5 ⟨rfl, hW5, _⟩
  obtain ⟨hbe, hG, v, hc, ho5⟩ := hW5
  have hcv := w_cell hc
  have HB := Lib.hid hbe
  have HO := Lib.hid ho5
  clear hc ho5 hbe
  obtain ⟨A5, m5, c5, rfl⟩ := own_form HO.out
  go_wp2
  go_ret
  have e : [] ++ be 1 p ++ be 1 0 ++ be 2 s ++ be 1 op ++ (be 4 body.length ++ body) = frame p op s body := by
    have h1 : p % 256 = p := by rcases hp with rfl | rfl <;> rfl
    have h2 : op % 256 = op := by omega
    simp [be_1, be_2, frame, h1, h2]
  have ho6 := HO.out
  rw [e] at ho6
  exact ⟨_, rfl, HB.out, ho6⟩
/-- A statement, an option as the reference has them. -/
def c58 (x : S56) : S58 := ⟨x.f0, x.f1, x.f2.map c87⟩
def c54 (x : S53) : S54 := ⟨x.f0, x.f1⟩
abbrev IR.sc (r : IR) (Ao : Option Addr) (co : Nat) (A : Option Addr) (c : Nat) (As : Option Addr) (cs : Nat) : Array Value := #[.int .i64 r.op, .slice Ao r.opts.length co, .string r.text, .slice r.Ai r.id.length r.ci, .int .i64 r.q.cons, .bool r.q.skip, .slice A r.q.vals.length c, .int .i64 r.q.page, .slice r.q.A4 r.q.paging.length r.q.c4, .int .i64 r.q.serial, .slice r.q.A6 r.q.ts.length r.q.c6, .slice r.Ae r.ev.length r.ce, .int .i64 r.batch, .slice As r.sts.length cs, .slice r.Ad r.data.length r.cd]
/-- A request as the reference has it. -/
def IR.SIn (w : World) (r : IR) (Ao A As : Option Addr) : Prop := Kd.C k54 w Ao r.opts.length (r.opts.map c54) ∧ (Kd.int .u8).C w r.Ai r.id.length r.id ∧ r.q.SIn w A ∧ Kd.C Kd.string w r.Ae r.ev.length r.ev ∧ Kd.C k58 w As r.sts.length (r.sts.map c58) ∧ (Kd.int .u8).C w r.Ad r.data.length r.data
noncomputable def c9 (k : Nat) : Code := nth k (Tryz.f9.body.getD .skip)
noncomputable def t9 (k : Nat) : Code := tl k (Tryz.f9.body.getD .skip)
/-- The slots that are known. -/
def I9 (p s : Int) (K G : Nat) (a : Act) : Prop := a.defers = [] ∧ a.tmps.size = 197 ∧ a.tmps.getD 0 undef = .int .i64 p ∧ a.tmps.getD 1 undef = .int .i64 s ∧ a.tmps.getD 5 undef = .pointer (some ⟨K, 0, none⟩) ∧ a.tmps.getD 7 undef = .pointer (some ⟨G, 0, none⟩)
theorem I9.open_ {p s : Int} {K G : Nat} {a : Act} (h : I9 p s K G a) : ∃ g : Nat → Value, a = ⟨#[.int .i64 p, .int .i64 s, g 2, g 3, g 4, .pointer (some ⟨K, 0, none⟩), g 6, .pointer (some ⟨G, 0, none⟩), g 8, g 9, g 10, g 11, g 12, g 13, g 14, g 15, g 16, g 17, g 18, g 19, g 20, g 21, g 22, g 23, g 24, g 25, g 26, g 27, g 28, g 29, g 30, g 31, g 32, g 33, g 34, g 35, g 36, g 37, g 38, g 39, g 40, g 41, g 42, g 43, g 44, g 45, g 46, g 47, g 48, g 49, g 50, g 51, g 52, g 53, g 54, g 55, g 56, g 57, g 58, g 59, g 60, g 61, g 62, g 63, g 64, g 65, g 66, g 67, g 68, g 69, g 70, g 71, g 72, g 73, g 74, g 75, g 76, g 77, g 78, g 79, g 80, g 81, g 82, g 83, g 84, g 85, g 86, g 87, g 88, g 89, g 90, g 91, g 92, g 93, g 94, g 95, g 96, g 97, g 98, g 99, g 100, g 101, g 102, g 103, g 104, g 105, g 106, g 107, g 108, g 109, g 110, g 111, g 112, g 113, g 114, g 115, g 116, g 117, g 118, g 119, g 120, g 121, g 122, g 123, g 124, g 125, g 126, g 127, g 128, g 129, g 130, g 131, g 132, g 133, g 134, g 135, g 136, g 137, g 138, g 139, g 140, g 141, g 142, g 143, g 144, g 145, g 146, g 147, g 148, g 149, g 150, g 151, g 152, g 153, g 154, g 155, g 156, g 157, g 158, g 159, g 160, g 161, g 162, g 163, g 164, g 165, g 166, g 167, g 168, g 169, g 170, g 171, g 172, g 173, g 174, g 175, g 176, g 177, g 178, g 179, g 180, g 181, g 182, g 183, g 184, g 185, g 186, g 187, g 188, g 189, g 190, g 191, g 192, g 193, g 194, g 195, g 196], []⟩ := by
  obtain ⟨hd, hs, h0, h1, h5, h7⟩ := h
  refine ⟨fun t => a.tmps.getD t undef, ?_⟩
  have e := frame_open 197 a hd hs
  generalize hg : (fun t => a.tmps.getD t undef) = g at e
  have g0 : g 0 = .int .i64 p := by rw [← hg]; exact h0
  have g1 : g 1 = .int .i64 s := by rw [← hg]; exact h1
  have g5 : g 5 = .pointer (some ⟨K, 0, none⟩) := by rw [← hg]; exact h5
  have g7 : g 7 = .pointer (some ⟨G, 0, none⟩) := by rw [← hg]; exact h7
  have e2 : ((List.range 197).map g).toArray = #[g 0, g 1, g 2, g 3, g 4, g 5, g 6, g 7, g 8, g 9, g 10, g 11, g 12, g 13, g 14, g 15, g 16, g 17, g 18, g 19, g 20, g 21, g 22, g 23, g 24, g 25, g 26, g 27, g 28, g 29, g 30, g 31, g 32, g 33, g 34, g 35, g 36, g 37, g 38, g 39, g 40, g 41, g 42, g 43, g 44, g 45, g 46, g 47, g 48, g 49, g 50, g 51, g 52, g 53, g 54, g 55, g 56, g 57, g 58, g 59, g 60, g 61, g 62, g 63, g 64, g 65, g 66, g 67, g 68, g 69, g 70, g 71, g 72, g 73, g 74, g 75, g 76, g 77, g 78, g 79, g 80, g 81, g 82, g 83, g 84, g 85, g 86, g 87, g 88, g 89, g 90, g 91, g 92, g 93, g 94, g 95, g 96, g 97, g 98, g 99, g 100, g 101, g 102, g 103, g 104, g 105, g 106, g 107, g 108, g 109, g 110, g 111, g 112, g 113, g 114, g 115, g 116, g 117, g 118, g 119, g 120, g 121, g 122, g 123, g 124, g 125, g 126, g 127, g 128, g 129, g 130, g 131, g 132, g 133, g 134, g 135, g 136, g 137, g 138, g 139, g 140, g 141, g 142, g 143, g 144, g 145, g 146, g 147, g 148, g 149, g 150, g 151, g 152, g 153, g 154, g 155, g 156, g 157, g 158, g 159, g 160, g 161, g 162, g 163, g 164, g 165, g 166, g 167, g 168, g 169, g 170, g 171, g 172, g 173, g 174, g 175, g 176, g 177, g 178, g 179, g 180, g 181, g 182, g 183, g 184, g 185, g 186, g 187, g 188, g 189, g 190, g 191, g 192, g 193, g 194, g 195, g 196] := rfl
  rw [g0, g1, g5, g7] at e2
  rw [e, e2]
theorem body9 : Tryz.f9.body = some ((c9 0).seq ((c9 1).seq ((c9 2).seq ((c9 3).seq (t9 4))))) := rfl
theorem t9_4 : t9 4 = .ret := rfl
theorem a_01 {Q : Exit → Act → World → Prop} {y : Code} {w : World} {p s : Int} {cs : Array Value} {a : Act} (hd : a.defers = []) (hs : a.tmps.size = 197) (h0 : a.tmps.getD 0 undef = .int .i64 p) (h1 : a.tmps.getD 1 undef = .int .i64 s) (h2 : a.tmps.getD 2 undef = .agg cs)
    (h : ∀ a' w', I9 p s w.heap.size (w.heap.size + 1 + 1) a' → Wr (w.alloc (.cells cs 39)) w' (w.heap.size + 1 + 1) [] → Code.wp Tryz.prog y Q a' w') : Code.wp Tryz.prog ((c9 0).seq ((c9 1).seq y)) Q a w := by
  have hb0 : (w.alloc (.cells cs 39)).heap.size = w.heap.size + 1 := by simp
  have hb1 : ((w.alloc (.cells cs 39)).alloc (.cells #[] 5)).heap.size = w.heap.size + 1 + 1 := by simp
  have ho1 := (own_empty (w.alloc (.cells cs 39)) 5 (w.heap.size + 1) 1 (by simp)).alloc (.cells #[.slice (some ⟨w.heap.size + 1, 0, none⟩) 0 0] 81)
  rw [hb0] at ho1
  have hg1 := heap_alloc_new ((w.alloc (.cells cs 39)).alloc (.cells #[] 5)) (.cells #[.slice (some ⟨w.heap.size + 1, 0, none⟩) 0 0] 81)
  rw [hb1] at hg1
  have HW0 : Hid (Wr (w.alloc (.cells cs 39)) (((w.alloc (.cells cs 39)).alloc (.cells #[] 5)).alloc (.cells #[.slice (some ⟨w.heap.size + 1, 0, none⟩) 0 0] 81)) (w.heap.size + 1 + 1) []) := Lib.hid ⟨below_alloc (below_alloc (Below.refl _ _) _) _, by rw [hb0]; omega, _, hg1, by rw [hb0]; exact ho1⟩
  clear hb0 hb1 ho1 hg1
  have HH := Lib.hid h
  have e := frame_open 197 a hd hs
  generalize hg : (fun t => a.tmps.getD t undef) = g at e
  have g0 : g 0 = .int .i64 p := by rw [← hg]; exact h0
  have g1 : g 1 = .int .i64 s := by rw [← hg]; exact h1
  have g2 : g 2 = .agg cs := by rw [← hg]; exact h2
  have e2 : ((List.range 197).map g).toArray = #[g 0, g 1, g 2, g 3, g 4, g 5, g 6, g 7, g 8, g 9, g 10, g 11, g 12, g 13, g 14, g 15, g 16, g 17, g 18, g 19, g 20, g 21, g 22, g 23, g 24, g 25, g 26, g 27, g 28, g 29, g 30, g 31, g 32, g 33, g 34, g 35, g 36, g 37, g 38, g 39, g 40, g 41, g 42, g 43, g 44, g 45, g 46, g 47, g 48, g 49, g 50, g 51, g 52, g 53, g 54, g 55, g 56, g 57, g 58, g 59, g 60, g 61, g 62, g 63, g 64, g 65, g 66, g 67, g 68, g 69, g 70, g 71, g 72, g 73, g 74, g 75, g 76, g 77, g 78, g 79, g 80, g 81, g 82, g 83, g 84, g 85, g 86, g 87, g 88, g 89, g 90, g 91, g 92, g 93, g 94, g 95, g 96, g 97, g 98, g 99, g 100, g 101, g 102, g 103, g 104, g 105, g 106, g 107, g 108, g 109, g 110, g 111, g 112, g 113, g 114, g 115, g 116, g 117, g 118, g 119, g 120, g 121, g 122, g 123, g 124, g 125, g 126, g 127, g 128, g 129, g 130, g 131, g 132, g 133, g 134, g 135, g 136, g 137, g 138, g 139, g 140, g 141, g 142, g 143, g 144, g 145, g 146, g 147, g 148, g 149, g 150, g 151, g 152, g 153, g 154, g 155, g 156, g 157, g 158, g 159, g 160, g 161, g 162, g 163, g 164, g 165, g 166, g 167, g 168, g 169, g 170, g 171, g 172, g 173, g 174, g 175, g 176, g 177, g 178, g 179, g 180, g 181, g 182, g 183, g 184, g 185, g 186, g 187, g 188, g 189, g 190, g 191, g 192, g 193, g 194, g 195, g 196] := rfl
  rw [g0, g1, g2] at e2
  rw [e, e2]
  clear e e2 hg h0 h1 h2 g0 g1 g2 hd hs h
  refine wp_seq ?_
  conv => arg 2; whnf
  go_wp2
  conv => arg 2; whnf
  go_wp2
  refine HH.out _ _ ?_ HW0.out
  exact ⟨rfl, rfl, rfl, rfl, rfl, rfl⟩
theorem a_3 {R : Ending → World → Prop} {KK : Act → World → Prop} {W : World} {p s op : Int} {K G : Nat} {a : Act} {body : List Int} {A : Option Addr} {c : Nat} (hI : I9 p s K G a) (hp : p = 3 ∨ p = 4) (ho : 0 ≤ op ∧ op ≤ 255) (hl : body.length ≤ 100000000)
    (hk : W.drew.cell? ⟨K, 0, none⟩ = some (.int .i64 op)) (hc : W.drew.cell? ⟨G, 0, none⟩ = some (.slice A body.length c)) (hr : ReadsInt W.drew .u8 A body.length body)
    (h : ∀ a' w' v, a'.defers = [] → a'.tmps.getD 6 undef = v → Out W.drew w' v (frame p op s body) → KK a' w') : Code.wp Tryz.prog (c9 3) (Exit.then KK (bodyPost Tryz.prog Tryz.f9 R)) a W := by
  have HH := Lib.hid h
  have HR := Lib.hid hr
  clear h hr
  obtain ⟨g, rfl⟩ := hI.open_
  clear hI
  conv => arg 2; whnf
  refine start_ (n := 9) (S := fun w' => w'.cell? ⟨K, 0, none⟩ = some (.int .i64 op) ∧ w'.cell? ⟨G, 0, none⟩ = some (.slice A body.length c)) (ds := []) #[false, false, false, false, false, false, false, false, false] (by kernel_rfl) rfl rfl ⟨hk, hc⟩ (fun hHeld => ?_)
  refine e_o 0 ?_
  refine e_o 1 ?_
  refine e_o 2 ?_
  refine e_o 4 ?_
  refine e_o 5 ?_
  refine e_t 3 hHeld ?_
  refine e_t 6 hHeld ?_
  refine one_ (i := 7) (N := some 196) #[true, true, true, true, true, true, true, true, false] rfl rfl (by kernel_rfl) (by decide) (fun K hK => ?_)
  refine goes_ Tryz.func31 (by kernel_rfl) rfl #[.int .i64 p, .int .i64 0, .int .i64 s, .int .i64 op, .slice A body.length c] (by rfl) rfl rfl (by simp only [List.map_toArray, List.map_cons, List.map_nil]; rfl) ?_
  with_reducible refine (frame_any _ p s op body A c hp ho hl HR.out).mono ?_
  rintro e x1 ⟨v, rfl, hO⟩
  refine ⟨_, rfl, ?_⟩
  have HO := Lib.hid hO
  clear hO
  refine hK.out _ _ ⟨pw_cell_below HO.out.1 hk, pw_cell_below HO.out.1 hc⟩ (fun hHeld => ?_)
  clear hK K
  refine norm_ (a' := ?_) ?_ ?_
  rotate_left
  · show Act.put _ (some 196) _ = _
    simp only [Act.put, List.setIfInBounds_toArray, List.set_cons_zero, List.set_cons_succ, i64_w, i32_w]
    rfl
  refine e_o 8 ?_
  refine done_ (by kernel_rfl) ?_
  exact HH.out _ _ _ rfl rfl HO.out
theorem b9_options {Q : Exit → Act → World → Prop} {wB W : World} {p s : Int} {K G : Nat} {r : IR} {Ao A As : Option Addr} {co c cs : Nat} {a : Act} (hI : I9 p s K G a) (hW : Wr wB W G []) (hK : wB.heap[K]? = some (.cells (r.sc Ao co A c As cs) 39 (0, 0))) (hIn : r.SIn wB Ao A As) (hop : r.op = 5) 
    (h : ∀ a' w', I9 p s K G a' → Wr wB w' G ([]) → Q .normal a' w') : Code.wp Tryz.prog (c9 2) Q a W := by
  have HK : Hid (∀ i v, (r.sc Ao co A c As cs)[i]? = some v → ∀ {W bs}, Wr wB W G bs → W.cell? ⟨K, i, none⟩ = some v) := Lib.hid (fun i v hv _ _ hW => pw_cell_below hW.1 ((cell_of_row _ _ i _ _ _ hK).trans hv))
  have HW := Lib.hid hW
  have HH := Lib.hid h
  have HI := Lib.hid hIn
  have k0 : W.cell? ⟨K, 0, none⟩ = some (.int .i64 5) := HK.out 0 _ (by show some (Value.int .i64 r.op) = _; rw [hop]) HW.out
  clear hW h hIn hop hK
  obtain ⟨g, rfl⟩ := hI.open_
  clear hI
  conv => arg 2; whnf
  go_wp2_with fail
  exact HH.out _ _ ⟨rfl, rfl, rfl, rfl, rfl, rfl⟩ HW.out
theorem b9_prepare {Q : Exit → Act → World → Prop} {wB W : World} {p s : Int} {K G : Nat} {r : IR} {Ao A As : Option Addr} {co c cs : Nat} {a : Act} (hI : I9 p s K G a) (hW : Wr wB W G []) (hK : wB.heap[K]? = some (.cells (r.sc Ao co A c As cs) 39 (0, 0))) (hIn : r.SIn wB Ao A As) (hop : r.op = 9) (ht : r.text.size ≤ 100)
    (h : ∀ a' w', I9 p s K G a' → Wr wB w' G (be 4 r.text.size ++ bytesOf r.text) → Q .normal a' w') : Code.wp Tryz.prog (c9 2) Q a W := by
  have HK : Hid (∀ i v, (r.sc Ao co A c As cs)[i]? = some v → ∀ {W bs}, Wr wB W G bs → W.cell? ⟨K, i, none⟩ = some v) := Lib.hid (fun i v hv _ _ hW => pw_cell_below hW.1 ((cell_of_row _ _ i _ _ _ hK).trans hv))
  have HW := Lib.hid hW
  have HH := Lib.hid h
  have HI := Lib.hid hIn
  have k0 : W.cell? ⟨K, 0, none⟩ = some (.int .i64 9) := HK.out 0 _ (by show some (Value.int .i64 r.op) = _; rw [hop]) HW.out
  have k2 : W.cell? ⟨K, 2, none⟩ = some (.string r.text) := HK.out 2 _ rfl HW.out
  clear hW h hIn hop hK
  obtain ⟨g, rfl⟩ := hI.open_
  clear hI
  conv => arg 2; whnf
  go_wp2_with fail
  refine (long_any wB G [] r.text _ (by simp only [List.length_append, be_length, bytesOf_length, List.length_nil]; omega) HW.out).mono ?_
  rintro e w1 ⟨rfl, hW1, _⟩
  have HW1 := Lib.hid hW1
  clear hW1 k0 k2
  go_wp2_with fail
  exact HH.out _ _ ⟨rfl, rfl, rfl, rfl, rfl, rfl⟩ HW1.out
theorem b9_query {Q : Exit → Act → World → Prop} {wB W : World} {p s : Int} {K G : Nat} {r : IR} {Ao A As : Option Addr} {co c cs : Nat} {a : Act} (hI : I9 p s K G a) (hW : Wr wB W G []) (hK : wB.heap[K]? = some (.cells (r.sc Ao co A c As cs) 39 (0, 0))) (hIn : r.SIn wB Ao A As) (hop : r.op = 7) (ht : r.text.size ≤ 100) (hq : r.q.ok)
    (h : ∀ a' w', I9 p s K G a' → Wr wB w' G (be 4 r.text.size ++ bytesOf r.text ++ qbytes r.q.qp) → Q .normal a' w') : Code.wp Tryz.prog (c9 2) Q a W := by
  have HK : Hid (∀ i v, (r.sc Ao co A c As cs)[i]? = some v → ∀ {W bs}, Wr wB W G bs → W.cell? ⟨K, i, none⟩ = some v) := Lib.hid (fun i v hv _ _ hW => pw_cell_below hW.1 ((cell_of_row _ _ i _ _ _ hK).trans hv))
  have HW := Lib.hid hW
  have HH := Lib.hid h
  have HI := Lib.hid hIn
  have k0 : W.cell? ⟨K, 0, none⟩ = some (.int .i64 7) := HK.out 0 _ (by show some (Value.int .i64 r.op) = _; rw [hop]) HW.out
  have k2 : W.cell? ⟨K, 2, none⟩ = some (.string r.text) := HK.out 2 _ rfl HW.out
  clear hW h hIn hop hK
  obtain ⟨g, rfl⟩ := hI.open_
  clear hI
  conv => arg 2; whnf
  go_wp2_with fail
  refine (long_any wB G [] r.text _ (by simp only [List.length_append, be_length, bytesOf_length, List.length_nil]; omega) HW.out).mono ?_
  rintro e w1 ⟨rfl, hW1, _⟩
  have HW1 := Lib.hid hW1
  clear hW1 k0 k2
  have Hq := Lib.hid hq
  clear hq
  have k4 : w1.cell? ⟨K, 4, none⟩ = some (.int .i64 r.q.cons) := HK.out 4 _ rfl HW1.out
  have k5 : w1.cell? ⟨K, 5, none⟩ = some (.bool r.q.skip) := HK.out 5 _ rfl HW1.out
  have k6 : w1.cell? ⟨K, 6, none⟩ = some (.slice A r.q.vals.length c) := HK.out 6 _ rfl HW1.out
  have k7 : w1.cell? ⟨K, 7, none⟩ = some (.int .i64 r.q.page) := HK.out 7 _ rfl HW1.out
  have k8 : w1.cell? ⟨K, 8, none⟩ = some (.slice r.q.A4 r.q.paging.length r.q.c4) := HK.out 8 _ rfl HW1.out
  have k9 : w1.cell? ⟨K, 9, none⟩ = some (.int .i64 r.q.serial) := HK.out 9 _ rfl HW1.out
  have k10 : w1.cell? ⟨K, 10, none⟩ = some (.slice r.q.A6 r.q.ts.length r.q.c6) := HK.out 10 _ rfl HW1.out
  go_wp2_with fail
  refine (sq_any wB _ G _ r.q A c HW1.out HI.out.2.2.1 (by simp only [List.length_append, be_length, bytesOf_length, List.length_nil]; omega) Hq.out).mono ?_
  rintro e w2 ⟨rfl, hW2, _⟩
  have HW2 := Lib.hid hW2
  clear hW2 k4 k5 k6 k7 k8 k9 k10
  go_wp2_with fail
  exact HH.out _ _ ⟨rfl, rfl, rfl, rfl, rfl, rfl⟩ HW2.out
theorem b9_execute {Q : Exit → Act → World → Prop} {wB W : World} {p s : Int} {K G : Nat} {r : IR} {Ao A As : Option Addr} {co c cs : Nat} {a : Act} (hI : I9 p s K G a) (hW : Wr wB W G []) (hK : wB.heap[K]? = some (.cells (r.sc Ao co A c As cs) 39 (0, 0))) (hIn : r.SIn wB Ao A As) (hop : r.op = 10) (hi : r.id.length ≤ 100) (hq : r.q.ok)
    (h : ∀ a' w', I9 p s K G a' → Wr wB w' G (be 2 r.id.length ++ r.id ++ qbytes r.q.qp) → Q .normal a' w') : Code.wp Tryz.prog (c9 2) Q a W := by
  have HK : Hid (∀ i v, (r.sc Ao co A c As cs)[i]? = some v → ∀ {W bs}, Wr wB W G bs → W.cell? ⟨K, i, none⟩ = some v) := Lib.hid (fun i v hv _ _ hW => pw_cell_below hW.1 ((cell_of_row _ _ i _ _ _ hK).trans hv))
  have HW := Lib.hid hW
  have HH := Lib.hid h
  have HI := Lib.hid hIn
  have k0 : W.cell? ⟨K, 0, none⟩ = some (.int .i64 10) := HK.out 0 _ (by show some (Value.int .i64 r.op) = _; rw [hop]) HW.out
  have k3 : W.cell? ⟨K, 3, none⟩ = some (.slice r.Ai r.id.length r.ci) := HK.out 3 _ rfl HW.out
  clear hW h hIn hop hK
  obtain ⟨g, rfl⟩ := hI.open_
  clear hI
  conv => arg 2; whnf
  have HID := Lib.hid (ints_of HI.out.2.1)
  go_wp2_with fail
  refine (short_any wB G [] r.id _ _ _ _ rfl (by simp only [List.length_append, be_length, bytesOf_length, List.length_nil]; omega) HW.out HID.out).mono ?_
  rintro e w1 ⟨rfl, hW1, _⟩
  have HW1 := Lib.hid hW1
  clear hW1 k0 k3
  have Hq := Lib.hid hq
  clear hq
  have k4 : w1.cell? ⟨K, 4, none⟩ = some (.int .i64 r.q.cons) := HK.out 4 _ rfl HW1.out
  have k5 : w1.cell? ⟨K, 5, none⟩ = some (.bool r.q.skip) := HK.out 5 _ rfl HW1.out
  have k6 : w1.cell? ⟨K, 6, none⟩ = some (.slice A r.q.vals.length c) := HK.out 6 _ rfl HW1.out
  have k7 : w1.cell? ⟨K, 7, none⟩ = some (.int .i64 r.q.page) := HK.out 7 _ rfl HW1.out
  have k8 : w1.cell? ⟨K, 8, none⟩ = some (.slice r.q.A4 r.q.paging.length r.q.c4) := HK.out 8 _ rfl HW1.out
  have k9 : w1.cell? ⟨K, 9, none⟩ = some (.int .i64 r.q.serial) := HK.out 9 _ rfl HW1.out
  have k10 : w1.cell? ⟨K, 10, none⟩ = some (.slice r.q.A6 r.q.ts.length r.q.c6) := HK.out 10 _ rfl HW1.out
  go_wp2_with fail
  refine (sq_any wB _ G _ r.q A c HW1.out HI.out.2.2.1 (by simp only [List.length_append, be_length, bytesOf_length, List.length_nil]; omega) Hq.out).mono ?_
  rintro e w2 ⟨rfl, hW2, _⟩
  have HW2 := Lib.hid hW2
  clear hW2 k4 k5 k6 k7 k8 k9 k10
  go_wp2_with fail
  exact HH.out _ _ ⟨rfl, rfl, rfl, rfl, rfl, rfl⟩ HW2.out
theorem b9_auth {Q : Exit → Act → World → Prop} {wB W : World} {p s : Int} {K G : Nat} {r : IR} {Ao A As : Option Addr} {co c cs : Nat} {a : Act} (hI : I9 p s K G a) (hW : Wr wB W G []) (hK : wB.heap[K]? = some (.cells (r.sc Ao co A c As cs) 39 (0, 0))) (hIn : r.SIn wB Ao A As) (hop : r.op = 15) (hd : r.data.length ≤ 100)
    (h : ∀ a' w', I9 p s K G a' → Wr wB w' G (be 4 r.data.length ++ r.data) → Q .normal a' w') : Code.wp Tryz.prog (c9 2) Q a W := by
  have HK : Hid (∀ i v, (r.sc Ao co A c As cs)[i]? = some v → ∀ {W bs}, Wr wB W G bs → W.cell? ⟨K, i, none⟩ = some v) := Lib.hid (fun i v hv _ _ hW => pw_cell_below hW.1 ((cell_of_row _ _ i _ _ _ hK).trans hv))
  have HW := Lib.hid hW
  have HH := Lib.hid h
  have HI := Lib.hid hIn
  have k0 : W.cell? ⟨K, 0, none⟩ = some (.int .i64 15) := HK.out 0 _ (by show some (Value.int .i64 r.op) = _; rw [hop]) HW.out
  have k14 : W.cell? ⟨K, 14, none⟩ = some (.slice r.Ad r.data.length r.cd) := HK.out 14 _ rfl HW.out
  clear hW h hIn hop hK
  obtain ⟨g, rfl⟩ := hI.open_
  clear hI
  conv => arg 2; whnf
  have HD := Lib.hid (ints_of HI.out.2.2.2.2.2)
  go_wp2_with fail
  refine (block_any wB G [] r.data _ _ _ _ rfl (by simp only [List.length_append, be_length, bytesOf_length, List.length_nil]; omega) HW.out HD.out).mono ?_
  rintro e w1 ⟨rfl, hW1, _⟩
  have HW1 := Lib.hid hW1
  clear hW1 k0 k14
  go_wp2_with fail
  exact HH.out _ _ ⟨rfl, rfl, rfl, rfl, rfl, rfl⟩ HW1.out
end Go.Proofs.YtammjbmfiakbnaaGreatDoor
