/-
  The reference's writer: the parameters of a query, what follows the flags. The reference's writer: the parameters of a query, whole; and a frame.
-/
import Derived.Test.YtammjbmfiakbnaaGreatDoorA
import Derived.Test.YtammjbmfiakbnaaGreatDoorI
namespace Go.Proofs.YtammjbmfiakbnaaGreatDoor
set_option maxHeartbeats 2000000
set_option maxRecDepth 100000
set_option linter.unusedSimpArgs false
set_option linter.unusedVariables false
open Go.RowKit Go.Proofs.YtammjbmfiakbnaaGreatDoorW.PrintWords Go.Proofs.YtammjbmfiakbnaaGreatDoorW.PrintLast Go.Proofs.YtammjbmfiakbnaaGreatDoorW.PrintMore
open Go.Proofs.YtammjbmfiakbnaaGreatDoor.PFnRequest
theorem s_4 {Q : Exit → Act → World → Prop} {w0 wB w : World} {G K c : Nat} {q : IQ} {A : Option Addr} {bs : List Int} {a : Act} {v5 : Value} (hS : St w0 wB G K q A c bs w) {f : Int} (hl : bs.length ≤ 900000000) (hI : I27 G K (.int .i64 f) v5 a)
    (h : ∀ a' w', I27 G K (.int .i64 f) v5 a' → St w0 wB G K q A c (bs ++ be 1 f) w' → Q .normal a' w') : Code.wp Tryz.prog (c27 4) Q a w := by
  obtain ⟨g, rfl⟩ := hI.open_
  clear hI
  conv => arg 2; whnf
  go_wp2_with (go_at_call 24; refine (put_any wB G bs _ _ 1 _ rfl (by omega) (by omega) hS.1).mono ?_; rintro e w1 ⟨rfl, hW1, hK1⟩)
  exact h _ _ ⟨rfl, rfl, rfl, rfl, rfl, rfl⟩ (hS.step hW1 hK1)
theorem s_5 {Q : Exit → Act → World → Prop} {w0 wB w : World} {G K c : Nat} {q : IQ} {A : Option Addr} {bs : List Int} {a : Act} {v4 : Value} (hS : St w0 wB G K q A c bs w) (hl : bs.length ≤ 800000000) (hN : q.vals.length ≤ 20) (hd : ∀ x ∈ q.vals, x.f3.length ≤ 100 ∧ x.f0.size ≤ 100) (hV : Kd.C k87 wB A q.vals.length (q.vals.map c87)) (hI : I27 G K v4 (.bool (named (q.vals.map qv))) a)
    (h : ∀ a' w', I27 G K v4 (.bool (named (q.vals.map qv))) a' → St w0 wB G K q A c (bs ++ opt_ (0 < q.vals.length) (be 2 q.vals.length ++ (q.vals.map qv).flatMap (vbytes (named (q.vals.map qv))))) w' → Q .normal a' w') : Code.wp Tryz.prog (c27 5) Q a w := by
  have k2 := (hS.at_ 2).trans rfl
  have HH := Lib.hid h
  have HV := Lib.hid hV
  have Hd := Lib.hid hd
  clear h hV hd
  by_cases h0 : 0 < q.vals.length
  · rw [opt_t h0] at HH
    generalize named (q.vals.map qv) = nm at *
    obtain ⟨g, rfl⟩ := hI.open_
    clear hI
    conv => arg 2; whnf
    go_wp2_with (go_at_call 24; refine (put_any wB G bs _ _ 2 _ rfl (by omega) (by omega) hS.1).mono ?_; rintro e w1 ⟨rfl, hW1, hK1⟩; have hS1 := hS.step hW1 hK1; have m2 := (hS1.at_ 2).trans rfl)
    have HS1 := Lib.hid hS1
    clear hS hS1 hW1 hK1 m2 k2
    go_loopw [77] (fun v77 W => ∃ i : Nat, v77 = .int .i64 i ∧ i ≤ q.vals.length ∧ Hid (St w0 wB G K q A c (bs ++ be 2 q.vals.length ++ ((q.vals.take i).map qv).flatMap (vbytes nm)) W)) (fun v77 _ => q.vals.length - (intOf v77).toNat)
    case atStart => exact ⟨0, rfl, by omega, by simpa using HS1⟩
    case round =>
      obtain ⟨i, rfl, hi, HS⟩ := hrel
      clear HS1
      by_cases hlt : i < q.vals.length
      · have hx : q.vals[i]? = some q.vals[i] := List.getElem?_eq_getElem hlt
        obtain ⟨ad, A3, c3, rfl, hx0, hx1, hx2, hx3, hl3, hi3⟩ := at_T87 HV.out (i : Int) (by omega) (by omega)
        have hrd : rd_T87 (q.vals.map c87) (i : Int) = c87 q.vals[i] := by simp [rd_T87, List.getD_eq_getElem?_getD, List.getElem?_map, hx]
        rw [hrd] at hx0 hx1 hx2 hx3 hl3 hi3
        rw [Int.toNat_natCast] at hx0 hx1 hx2 hx3
        obtain ⟨hdx, hsx⟩ := Hd.out _ (List.getElem_mem hlt)
        have hsn : ((q.vals.take (i + 1)).map qv).flatMap (vbytes nm) = ((q.vals.take i).map qv).flatMap (vbytes nm) ++ vbytes nm (qv q.vals[i]) := by
          rw [List.take_succ_eq_append_getElem hlt, List.map_append, List.flatMap_append]; simp
        have hcl : (bs ++ be 2 q.vals.length ++ ((q.vals.take i).map qv).flatMap (vbytes nm)).length ≤ 800010000 := by
          have h1 := flat_le (vbytes nm) 300 ((q.vals.take i).map qv) (fun y hy => by
            obtain ⟨x, hx, rfl⟩ := List.mem_map.1 hy
            obtain ⟨h1, h2⟩ := Hd.out x (List.mem_of_mem_take hx)
            exact vbytes_le nm _ ⟨h2, fun l hl => by simp only [qv] at hl; split at hl; · cases hl
                                                     · cases hl; exact h1⟩)
          have h2 : ((q.vals.take i).map qv).length ≤ 20 := by rw [List.length_map, List.length_take]; omega
          simp only [List.length_append, be_length]; omega
        have Hsn := Lib.hid hsn
        clear hsn
        have kx0 := pw_cell_below HS.out.1.1 hx0
        have kx1 := pw_cell_below HS.out.1.1 hx1
        have kx2 := pw_cell_below HS.out.1.1 hx2
        have kx3 := pw_cell_below HS.out.1.1 hx3
        have Hi3 := Lib.hid (ints_of hi3)
        clear hx hrd hx0 hx1 hx2 hx3 hi3
        generalize q.vals[i] = x at *
        generalize hcs : bs ++ be 2 q.vals.length ++ ((q.vals.take i).map qv).flatMap (vbytes nm) = cs at *
        have Hcs := Lib.hid hcs
        clear hcs
        obtain ⟨xn, xu, xnl, xd⟩ := x
        simp only [c87] at kx0 kx1 kx2 kx3 hl3 Hi3 hdx hsx
        have HSa := Lib.hid (HS.out.below_ (below_alloc (Below.refl wr.heap.size wr) (.cells #[.string xn, .bool xu, .bool xnl, .slice A3 xd.length c3] 87)))
        have HKb := Lib.hid (heap_alloc_new wr (.cells #[.string xn, .bool xu, .bool xnl, .slice A3 xd.length c3] 87))
        have hcl2 : (cs ++ (be 2 xn.size ++ bytesOf xn)).length ≤ 900000000 := by simp only [List.length_append, be_length, bytesOf_length]; omega
        cases nm with
        | true =>
          go_wp2_with (go_at_call 25; refine (text_any wB G cs xn _ (by omega) HSa.out.1).mono ?_; rintro e w2 ⟨rfl, hW2, hK2⟩; have hS2 := HSa.out.step hW2 hK2; have hKb := hK2 _ _ 87 (by decide) (by decide) HKb.out; have m0 := (cell_of_row _ _ 0 _ _ _ hKb).trans rfl; have m1 := (cell_of_row _ _ 1 _ _ _ hKb).trans rfl; have m2 := (cell_of_row _ _ 2 _ _ _ hKb).trans rfl; have m3 := (cell_of_row _ _ 3 _ _ _ hKb).trans rfl)
          have HS2 := Lib.hid hS2
          clear hS2 hW2 hK2 hKb m0 m1 m2 m3
          refine (param_any wB G (cs ++ (be 2 xn.size ++ bytesOf xn)) ⟨xn, xu, xnl, xd⟩ A3 c3 _ hdx hcl2 HS2.out.1 Hi3.out).mono ?_
          rintro e w3 ⟨rfl, hW3, hK3⟩
          have HS3 := Lib.hid (HS2.out.step hW3 hK3)
          clear hW3 hK3
          go_wp2_with fail
          go_roundw
          case rel =>
            refine ⟨i + 1, by go_num, by omega, Lib.hid ?_⟩
            rw [Hsn.out, ← List.append_assoc, Hcs.out, vbytes_qv]
            simpa [List.append_assoc] using HS3.out
          case measure => simp [intOf]; omega
        | false =>
          go_wp2_with fail
          refine (param_any wB G cs ⟨xn, xu, xnl, xd⟩ A3 c3 _ hdx (by omega) HSa.out.1 Hi3.out).mono ?_
          rintro e w3 ⟨rfl, hW3, hK3⟩
          have HS3 := Lib.hid (HSa.out.step hW3 hK3)
          clear hW3 hK3
          go_wp2_with fail
          go_roundw
          case rel =>
            refine ⟨i + 1, by go_num, by omega, Lib.hid ?_⟩
            rw [Hsn.out, ← List.append_assoc, Hcs.out, vbytes_qv]
            simpa [List.append_assoc] using HS3.out
          case measure => simp [intOf]; omega
      · have hii : i = q.vals.length := by omega
        subst hii
        rw [List.take_length] at HS
        go_wp2
        exact HH.out _ _ ⟨rfl, rfl, rfl, rfl, rfl, rfl⟩ (by rw [← List.append_assoc]; exact HS.out)
  · rw [opt_f h0, List.append_nil] at HH
    obtain ⟨g, rfl⟩ := hI.open_
    clear hI
    conv => arg 2; whnf
    go_wp2
    exact HH.out _ _ ⟨rfl, rfl, rfl, rfl, rfl, rfl⟩ hS
theorem s_6 {Q : Exit → Act → World → Prop} {w0 wB w : World} {G K c : Nat} {q : IQ} {A : Option Addr} {bs : List Int} {a : Act} {v4 v5 : Value} (hS : St w0 wB G K q A c bs w) (hl : bs.length ≤ 800000000) (hI : I27 G K v4 v5 a)
    (h : ∀ a' w', I27 G K v4 v5 a' → St w0 wB G K q A c (bs ++ opt_ (0 < q.page) (be 4 q.page)) w' → Q .normal a' w') : Code.wp Tryz.prog (c27 6) Q a w := by
  have k3 := (hS.at_ 3).trans rfl
  obtain ⟨g, rfl⟩ := hI.open_
  clear hI
  conv => arg 2; whnf
  by_cases h0 : 0 < q.page
  · rw [opt_t h0] at h
    go_wp2_with (go_at_call 24; refine (put_any wB G bs _ _ 4 _ rfl (by omega) (by omega) hS.1).mono ?_; rintro e w1 ⟨rfl, hW1, hK1⟩)
    exact h _ _ ⟨rfl, rfl, rfl, rfl, rfl, rfl⟩ (hS.step hW1 hK1)
  · rw [opt_f h0, List.append_nil] at h
    go_wp2_with fail
    exact h _ _ ⟨rfl, rfl, rfl, rfl, rfl, rfl⟩ hS
theorem s_7 {Q : Exit → Act → World → Prop} {w0 wB w : World} {G K c : Nat} {q : IQ} {A : Option Addr} {bs : List Int} {a : Act} {v4 v5 : Value} (hS : St w0 wB G K q A c bs w) (hl : bs.length ≤ 800000000) (hpg : q.paging.length ≤ 100) (hP : ReadsInt wB .u8 q.A4 q.paging.length q.paging) (hI : I27 G K v4 v5 a)
    (h : ∀ a' w', I27 G K v4 v5 a' → St w0 wB G K q A c (bs ++ opt_ (0 < q.paging.length) (be 4 q.paging.length ++ q.paging)) w' → Q .normal a' w') : Code.wp Tryz.prog (c27 7) Q a w := by
  have k4 := (hS.at_ 4).trans rfl
  obtain ⟨g, rfl⟩ := hI.open_
  clear hI
  conv => arg 2; whnf
  by_cases h0 : 0 < q.paging.length
  · rw [opt_t h0] at h
    go_wp2_with (go_at_call 30; refine (block_any wB G bs q.paging _ _ _ _ rfl (by omega) hS.1 hP).mono ?_; rintro e w1 ⟨rfl, hW1, hK1⟩)
    exact h _ _ ⟨rfl, rfl, rfl, rfl, rfl, rfl⟩ (hS.step hW1 hK1)
  · rw [opt_f h0, List.append_nil] at h
    go_wp2_with fail
    exact h _ _ ⟨rfl, rfl, rfl, rfl, rfl, rfl⟩ hS
theorem s_8 {Q : Exit → Act → World → Prop} {w0 wB w : World} {G K c : Nat} {q : IQ} {A : Option Addr} {bs : List Int} {a : Act} {v4 v5 : Value} (hS : St w0 wB G K q A c bs w) (hl : bs.length ≤ 800000000) (hI : I27 G K v4 v5 a)
    (h : ∀ a' w', I27 G K v4 v5 a' → St w0 wB G K q A c (bs ++ opt_ (0 < q.serial) (be 2 q.serial)) w' → Q .normal a' w') : Code.wp Tryz.prog (c27 8) Q a w := by
  have k5 := (hS.at_ 5).trans rfl
  obtain ⟨g, rfl⟩ := hI.open_
  clear hI
  conv => arg 2; whnf
  by_cases h0 : 0 < q.serial
  · rw [opt_t h0] at h
    go_wp2_with (go_at_call 24; refine (put_any wB G bs _ _ 2 _ rfl (by omega) (by omega) hS.1).mono ?_; rintro e w1 ⟨rfl, hW1, hK1⟩)
    exact h _ _ ⟨rfl, rfl, rfl, rfl, rfl, rfl⟩ (hS.step hW1 hK1)
  · rw [opt_f h0, List.append_nil] at h
    go_wp2_with fail
    exact h _ _ ⟨rfl, rfl, rfl, rfl, rfl, rfl⟩ hS
theorem s_9 {Q : Exit → Act → World → Prop} {w0 wB w : World} {G K c : Nat} {q : IQ} {A : Option Addr} {bs : List Int} {a : Act} {v4 v5 : Value} (hS : St w0 wB G K q A c bs w) (hl : bs.length ≤ 800000000) (hN : q.ts.length ≤ 1) (hT : (Kd.int .i64).C wB q.A6 q.ts.length q.ts) (hI : I27 G K v4 v5 a)
    (h : ∀ a' w', I27 G K v4 v5 a' → St w0 wB G K q A c (bs ++ q.ts.flatMap (be 8)) w' → Q .normal a' w') : Code.wp Tryz.prog (t27 9) Q a w := by
  have k6 := (hS.at_ 6).trans rfl
  have HH := Lib.hid h
  have HT := Lib.hid (Kd.reads_of_C (d := (0 : Int)) hT)
  have HS := Lib.hid hS
  have k6' : w.cell? ⟨K, 6, none⟩ = some (.slice q.A6 q.ts.length q.c6) := k6
  clear h hT hS k6
  generalize q.A6 = A6 at k6' HT
  obtain ⟨g, rfl⟩ := hI.open_
  clear hI
  conv => arg 2; whnf
  go_wp2
  go_loopw [115] (fun v115 W => ∃ i : Nat, v115 = .int .i64 i ∧ i ≤ q.ts.length ∧ Hid (St w0 wB G K q A c (bs ++ (q.ts.take i).flatMap (be 8)) W)) (fun v115 _ => q.ts.length - (intOf v115).toNat)
  case atStart => exact ⟨0, rfl, by omega, by simpa using HS⟩
  case round =>
    obtain ⟨i, rfl, hi, HS1⟩ := hrel
    clear HS
    by_cases hlt : i < q.ts.length
    · have hx : q.ts[i]? = some q.ts[i] := List.getElem?_eq_getElem hlt
      obtain ⟨ad, rfl, hc⟩ := HT.out.at_ (i : Int) (by omega) (by omega)
      have hrd : rdOf 0 q.ts (i : Int) = q.ts[i] := by simp [rdOf, List.getD_eq_getElem?_getD, hx]
      rw [hrd, Int.toNat_natCast] at hc
      have hsn := flat_snoc (be 8) q.ts i _ hx
      have hcl : (bs ++ (q.ts.take i).flatMap (be 8)).length ≤ 800000010 := by
        have h1 := flat_le (be 8) 8 (q.ts.take i) (fun y _ => by rw [be_length]; omega)
        have h2 : (q.ts.take i).length ≤ 1 := by rw [List.length_take]; omega
        simp only [List.length_append]; omega
      have Hsn := Lib.hid hsn
      have kc := pw_cell_below HS1.out.1.1 hc
      clear hsn hx hrd hc
      generalize q.ts[i] = x at *
      generalize hcs : bs ++ (q.ts.take i).flatMap (be 8) = cs at *
      have Hcs := Lib.hid hcs
      clear hcs
      go_wp2_with fail
      refine (put_any wB G cs _ _ 8 _ rfl (by omega) (by omega) HS1.out.1).mono ?_
      rintro e w3 ⟨rfl, hW3, hK3⟩
      have HS3 := Lib.hid (HS1.out.step hW3 hK3)
      clear hW3 hK3
      go_wp2_with fail
      go_roundw
      case rel =>
        refine ⟨i + 1, by go_num, by omega, Lib.hid ?_⟩
        rw [Hsn.out, ← List.append_assoc, Hcs.out]
        exact HS3.out
      case measure => simp [intOf]; omega
    · have hii : i = q.ts.length := by omega
      subst hii
      rw [List.take_length] at HS1
      go_wp2
      exact HH.out _ _ ⟨rfl, rfl, rfl, rfl, rfl, rfl⟩ HS1.out
theorem body27 : Tryz.f27.body = some ((c27 0).seq ((c27 1).seq ((c27 2).seq ((c27 3).seq ((c27 4).seq ((c27 5).seq ((c27 6).seq ((c27 7).seq ((c27 8).seq (t27 9)))))))))) := rfl
theorem s_0 {Q : Exit → Act → World → Prop} {w : World} {G : Nat} {v1 : Value} {cs : Array Value} {a : Act} (hd : a.defers = []) (hs : a.tmps.size = 123) (h0 : a.tmps.getD 0 undef = .pointer (some ⟨G, 0, none⟩)) (h1 : a.tmps.getD 1 undef = v1) (hv : v1 = .agg cs)
    (h : ∀ a', I27 G w.heap.size (a.tmps.getD 4 undef) (a.tmps.getD 5 undef) a' → Q .normal a' (w.alloc (.cells cs 36))) : Code.wp Tryz.prog (c27 0) Q a w := by
  subst hv
  have e := frame_open 123 a hd hs
  generalize hg : (fun t => a.tmps.getD t undef) = g at e
  have g0 : g 0 = .pointer (some ⟨G, 0, none⟩) := by rw [← hg]; exact h0
  have g1 : g 1 = .agg cs := by rw [← hg]; exact h1
  have g4 : a.tmps.getD 4 undef = g 4 := by rw [← hg]
  have g5 : a.tmps.getD 5 undef = g 5 := by rw [← hg]
  rw [g4, g5] at h
  have e2 : ((List.range 123).map g).toArray = #[g 0, g 1, g 2, g 3, g 4, g 5, g 6, g 7, g 8, g 9, g 10, g 11, g 12, g 13, g 14, g 15, g 16, g 17, g 18, g 19, g 20, g 21, g 22, g 23, g 24, g 25, g 26, g 27, g 28, g 29, g 30, g 31, g 32, g 33, g 34, g 35, g 36, g 37, g 38, g 39, g 40, g 41, g 42, g 43, g 44, g 45, g 46, g 47, g 48, g 49, g 50, g 51, g 52, g 53, g 54, g 55, g 56, g 57, g 58, g 59, g 60, g 61, g 62, g 63, g 64, g 65, g 66, g 67, g 68, g 69, g 70, g 71, g 72, g 73, g 74, g 75, g 76, g 77, g 78, g 79, g 80, g 81, g 82, g 83, g 84, g 85, g 86, g 87, g 88, g 89, g 90, g 91, g 92, g 93, g 94, g 95, g 96, g 97, g 98, g 99, g 100, g 101, g 102, g 103, g 104, g 105, g 106, g 107, g 108, g 109, g 110, g 111, g 112, g 113, g 114, g 115, g 116, g 117, g 118, g 119, g 120, g 121, g 122] := rfl
  rw [g0, g1] at e2
  rw [e, e2]
  clear e e2 hg h0 h1 g0 g1 g4 g5 hd hs
  have HH := Lib.hid h
  clear h
  conv => arg 2; whnf
  go_wp2
  exact HH.out _ ⟨rfl, rfl, rfl, rfl, rfl, rfl⟩
attribute [local irreducible] c27 t27
theorem e27 (G : Nat) (v1 : Value) (w : World) (R : Ending → World → Prop)
   (h : ∀ a : Act, a.defers = [] → a.tmps.size = 123 → a.tmps.getD 0 undef = .pointer (some ⟨G, 0, none⟩) → a.tmps.getD 1 undef = v1 → Code.wp Tryz.prog ((c27 0).seq ((c27 1).seq ((c27 2).seq ((c27 3).seq ((c27 4).seq ((c27 5).seq ((c27 6).seq ((c27 7).seq ((c27 8).seq (t27 9)))))))))) (bodyPost Tryz.prog Tryz.f27 R) a w) :
    Calls Tryz.prog 27 #[.pointer (some ⟨G, 0, none⟩), v1] w R := by
  refine calls_by 123 Tryz.func27 body27 Tryz.ntmps27 (by simp) fun a hd hs hg => ?_
  refine h a hd hs ?_ ?_
  all_goals (rw [hg]; rfl)
/-- The bytes. -/
def sqbytes (q : IQ) : List Int := be 2 q.cons ++ be 1 (flg q.b 7) ++ opt_ (0 < q.vals.length) (be 2 q.vals.length ++ (q.vals.map qv).flatMap (vbytes (named (q.vals.map qv)))) ++ opt_ (0 < q.page) (be 4 q.page) ++ opt_ (0 < q.paging.length) (be 4 q.paging.length ++ q.paging) ++ opt_ (0 < q.serial) (be 2 q.serial) ++ q.ts.flatMap (be 8)
theorem ts_one (l : List Int) (h : l.length ≤ 1) : l.flatMap (be 8) = opt_ (decide (0 < l.length) = true) (be 8 (l.getD 0 0)) := by
  match l, h with
  | [], _ => rfl
  | [x], _ => simp [opt_]
theorem sqbytes_eq (q : IQ) (ht : q.ts.length ≤ 1) : sqbytes q = qbytes q.qp := by
  have hr := flg_range q.b 7
  have h1 : be 1 (flg q.b 7) = [q.qp.flags] := by
    rw [be_1]
    have e : flg q.b 7 = q.qp.flags := by
      have hd : ∀ (b : Bool) (k : Int), bit (decide (b = true)) k = bit b k := fun b k => by cases b <;> rfl
      have hl : (q.vals.map qv).length = q.vals.length := List.length_map _
      show 0 + bit (decide (0 < q.vals.length)) (2 ^ 0) + bit q.skip (2 ^ 1) + bit (decide (0 < q.page)) (2 ^ 2) + bit (decide (0 < q.paging.length)) (2 ^ 3) + bit (decide (0 < q.serial)) (2 ^ 4) + bit (decide (0 < q.ts.length)) (2 ^ 5) + bit (named (q.vals.map qv)) (2 ^ 6) = bit (decide (0 < (q.vals.map qv).length)) 1 + bit (decide (q.skip = true)) 2 + bit (decide (0 < q.page)) 4 + bit (decide (0 < q.paging.length)) 8 + bit (decide (0 < q.serial)) 16 + bit (decide (decide (0 < q.ts.length) = true)) 32 + bit (decide (named (q.vals.map qv) = true)) 64
      rw [hd, hd, hd]
      simp only [hl, Int.reducePow, Int.zero_add]
    have e2 : flg q.b 7 % 256 = flg q.b 7 := by have := hr.1; have := hr.2; simp only [Int.reducePow] at *; omega
    rw [e2, e]
  unfold sqbytes qbytes
  rw [h1, ts_one q.ts ht]
  simp only [IQ.qp, List.length_map]
  rfl
theorem sq_vals_le (q : IQ) (hd : ∀ x ∈ q.vals, x.f3.length ≤ 100 ∧ x.f0.size ≤ 100) (nm : Bool) : ((q.vals.map qv).flatMap (vbytes nm)).length ≤ q.vals.length * 300 := by
  have h := flat_le (vbytes nm) 300 (q.vals.map qv) (fun y hy => by
    obtain ⟨x, hx, rfl⟩ := List.mem_map.1 hy
    obtain ⟨h1, h2⟩ := hd x hx
    exact vbytes_le nm _ ⟨h2, fun l hl => by
      simp only [qv] at hl
      split at hl
      · cases hl
      · cases hl; exact h1⟩)
  rwa [List.length_map] at h
set_option maxHeartbeats 1000000 in
theorem sq_any (wB w : World) (G : Nat) (bs : List Int) (q : IQ) (A : Option Addr) (c : Nat) (hW : Wr wB w G bs) (hI : q.SIn wB A) (hl : bs.length ≤ 100000) (hq : q.ok) :
    Calls Tryz.prog 27 #[.pointer (some ⟨G, 0, none⟩), .agg (q.sc A c)] w fun e w' => e = .returned (.tuple #[]) ∧ Wr wB w' G (bs ++ qbytes q.qp) ∧ Kw w w' := by
  obtain ⟨hV, hP0, hT⟩ := hI
  have hP := ints_of hP0
  obtain ⟨_, _, hN, hd, _, _, hpg, _, _, hts⟩ := hq
  have hv := sq_vals_le q hd (named (q.vals.map qv))
  refine e27 G _ w _ fun a hd0 hs0 h0 h1 => ?_
  refine wp_seq ?_
  have hS0 : St w wB (G := G) w.heap.size q A c bs (w.alloc (.cells (q.sc A c) 36)) := ⟨hW.alloc _, heap_alloc_new _ _, Kw.of_below (below_alloc (Below.refl _ _) _)⟩
  refine s_0 hd0 hs0 h0 h1 rfl fun a0 hI => ?_
  refine wp_seq (s_1 hS0 (by omega) hI fun a1 w1 hI hS => ?_)
  refine wp_seq (s_2 hS hV hI fun a2 w2 hI hS => ?_)
  refine wp_seq (s_3 hS hI fun a3 w3 hI hS => ?_)
  refine wp_seq (s_4 hS (by simp only [List.length_append, be_length]; omega) hI fun a4 w4 hI hS => ?_)
  have o1 := opt_le (0 < q.vals.length) (be 2 q.vals.length ++ (q.vals.map qv).flatMap (vbytes (named (q.vals.map qv))))
  have o2 := opt_le (0 < q.page) (be 4 q.page)
  have o3 := opt_le (0 < q.paging.length) (be 4 q.paging.length ++ q.paging)
  have o4 := opt_le (0 < q.serial) (be 2 q.serial)
  simp only [List.length_append, be_length] at o1 o2 o3 o4
  refine wp_seq (s_5 hS (by simp only [List.length_append, be_length]; omega) hN hd hV hI fun a5 w5 hI hS => ?_)
  refine wp_seq (s_6 hS (by simp only [List.length_append, be_length]; omega) hI fun a6 w6 hI hS => ?_)
  refine wp_seq (s_7 hS (by simp only [List.length_append, be_length]; omega) hpg hP hI fun a7 w7 hI hS => ?_)
  refine wp_seq (s_8 hS (by simp only [List.length_append, be_length]; omega) hI fun a8 w8 hI hS => ?_)
  refine s_9 hS (by simp only [List.length_append, be_length]; omega) hts hT hI fun a9 w9 hI hS => ?_
  refine bodyPost_end (results_none rfl _ _ _) hI.1 ⟨rfl, ?_, hS.2.2⟩
  rw [← sqbytes_eq q hts]
  simpa [sqbytes, List.append_assoc] using hS.1
end Go.Proofs.YtammjbmfiakbnaaGreatDoor
