/-
  The batch's frame. The batch's frame, whole. ZZBatch.
-/
import Derived.Test.YtammjbmfiakbnaaGreatDoorK
namespace Go.Proofs.YtammjbmfiakbnaaGreatDoor
set_option maxHeartbeats 2000000
set_option maxRecDepth 100000
set_option linter.unusedSimpArgs false
set_option linter.unusedVariables false
open Go.RowKit Go.Proofs.YtammjbmfiakbnaaGreatDoorW.PrintWords Go.Proofs.YtammjbmfiakbnaaGreatDoorW.PrintLast Go.Proofs.YtammjbmfiakbnaaGreatDoorW.PrintMore
/-- A statement of a batch. -/
structure SV where
  id : List Int
  st : ByteArray
  vals : List QV
def SV.ok (x : SV) : Prop := x.id.length ≤ 100 ∧ x.st.size ≤ 100 ∧ x.vals.length ≤ 20 ∧ ∀ y ∈ x.vals, y.ok ∧ y.name = ⟨#[]⟩
/-- Statements in a row. -/
def SRow (w : World) (A : Option Addr) (xs : List SV) : Prop := 0 < xs.length → ∃ g, A = some ⟨g, 0, none⟩ ∧ ∀ i x, xs[i]? = some x → ∃ Ai ci Av cv, w.cell? ⟨g, i * 3, none⟩ = some (.slice Ai x.id.length ci) ∧ ReadsInt w .u8 Ai x.id.length x.id ∧ w.cell? ⟨g, i * 3 + 1, none⟩ = some (.string x.st) ∧ w.cell? ⟨g, i * 3 + 2, none⟩ = some (.slice Av x.vals.length cv) ∧ QRow w Av x.vals
/-- The bytes of a statement: its head, its values. -/
def shead (x : SV) : List Int := if x.id.length = 0 then [0] ++ (be 4 x.st.size ++ bytesOf x.st) else [1] ++ (be 2 x.id.length ++ x.id)
def svals (x : SV) : List Int := be 2 x.vals.length ++ x.vals.flatMap (vbytes false)
def stbytes (x : SV) : List Int := shead x ++ svals x
theorem shead_le (x : SV) (h : x.ok) : (shead x).length ≤ 110 := by
  unfold shead
  have h1 := h.1
  have h2 := h.2.1
  split <;> simp only [List.length_append, be_length, bytesOf_length, List.length_singleton] <;> omega
theorem svals_le (x : SV) (h : x.ok) : (svals x).length ≤ 6010 := by
  have h3 := h.2.2.1
  have := flat_le (vbytes false) 300 x.vals (fun y hy => vbytes_le _ y (h.2.2.2 y hy).1)
  simp only [svals, List.length_append, be_length]
  omega
theorem stbytes_le (x : SV) (h : x.ok) : (stbytes x).length ≤ 6120 := by
  have h1 := shead_le x h
  have h2 := svals_le x h
  simp only [stbytes, List.length_append]
  omega
/-- The bytes of a batch. -/
def bflags (q : QP) : Int := bit (decide (0 < q.serial)) 16 + bit (decide (q.hasT = true)) 32
def bbytes (typ : Int) (xs : List SV) (q : QP) : List Int := [typ] ++ be 2 xs.length ++ xs.flatMap stbytes ++ be 2 q.cons ++ [bflags q] ++ opt_ (0 < q.serial) (be 2 q.serial) ++ opt_ (q.hasT = true) (be 8 q.t)
/-- The cells of a batch. -/
def BCells (W : World) (b : Nat) (typ : Int) (n : Nat) (q : QP) (A : Option Addr) (c : Nat) : Prop := W.cell? ⟨b, 0, none⟩ = some (.int .u8 typ) ∧ W.cell? ⟨b, 1, none⟩ = some (.slice A n c) ∧ W.cell? ⟨b, 2, none⟩ = some (.int .u16 q.cons) ∧ W.cell? ⟨b, 3, none⟩ = some (.int .u16 q.serial) ∧ W.cell? ⟨b, 4, none⟩ = some (.bool q.hasT) ∧ W.cell? ⟨b, 5, none⟩ = some (.int .i64 q.t) ∧ W.cell? ⟨b, 6, none⟩ = some (.map none)
theorem BCells.later {wB W : World} {b n : Nat} {typ : Int} {q : QP} {A : Option Addr} {c : Nat} (h : BCells wB b typ n q A c) (hb : Below wB.heap.size wB W) : BCells W b typ n q A c := by
  have hbl : b < wB.heap.size := World.block_lt_of_cell? wB _ h.1
  have hh : ∀ i, W.cell? ⟨b, i, none⟩ = wB.cell? ⟨b, i, none⟩ := fun i => hb.cell (p := ⟨b, i, none⟩) hbl
  unfold BCells
  simp only [hh]
  exact h
/-- The slots of writeBatchFrame that are known between its statements. -/
def I331 (F b : Nat) (s : Int) (v7 v8 v9 v10 : Value) (a : Act) : Prop := a.defers = [] ∧ a.tmps.size = 197 ∧ a.tmps.getD 0 undef = .pointer (some ⟨F, 0, none⟩) ∧ a.tmps.getD 1 undef = .int .i64 s ∧ a.tmps.getD 2 undef = .pointer (some ⟨b, 0, none⟩) ∧ a.tmps.getD 3 undef = .map none ∧ a.tmps.getD 7 undef = v7 ∧ a.tmps.getD 8 undef = v8 ∧ a.tmps.getD 9 undef = v9 ∧ a.tmps.getD 10 undef = v10
theorem I331.open_ {F b : Nat} {s : Int} {v7 v8 v9 v10 : Value} {a : Act} (h : I331 F b s v7 v8 v9 v10 a) : ∃ g : Nat → Value, a = ⟨#[.pointer (some ⟨F, 0, none⟩), .int .i64 s, .pointer (some ⟨b, 0, none⟩), .map none, g 4, g 5, g 6, v7, v8, v9, v10, g 11, g 12, g 13, g 14, g 15, g 16, g 17, g 18, g 19, g 20, g 21, g 22, g 23, g 24, g 25, g 26, g 27, g 28, g 29, g 30, g 31, g 32, g 33, g 34, g 35, g 36, g 37, g 38, g 39, g 40, g 41, g 42, g 43, g 44, g 45, g 46, g 47, g 48, g 49, g 50, g 51, g 52, g 53, g 54, g 55, g 56, g 57, g 58, g 59, g 60, g 61, g 62, g 63, g 64, g 65, g 66, g 67, g 68, g 69, g 70, g 71, g 72, g 73, g 74, g 75, g 76, g 77, g 78, g 79, g 80, g 81, g 82, g 83, g 84, g 85, g 86, g 87, g 88, g 89, g 90, g 91, g 92, g 93, g 94, g 95, g 96, g 97, g 98, g 99, g 100, g 101, g 102, g 103, g 104, g 105, g 106, g 107, g 108, g 109, g 110, g 111, g 112, g 113, g 114, g 115, g 116, g 117, g 118, g 119, g 120, g 121, g 122, g 123, g 124, g 125, g 126, g 127, g 128, g 129, g 130, g 131, g 132, g 133, g 134, g 135, g 136, g 137, g 138, g 139, g 140, g 141, g 142, g 143, g 144, g 145, g 146, g 147, g 148, g 149, g 150, g 151, g 152, g 153, g 154, g 155, g 156, g 157, g 158, g 159, g 160, g 161, g 162, g 163, g 164, g 165, g 166, g 167, g 168, g 169, g 170, g 171, g 172, g 173, g 174, g 175, g 176, g 177, g 178, g 179, g 180, g 181, g 182, g 183, g 184, g 185, g 186, g 187, g 188, g 189, g 190, g 191, g 192, g 193, g 194, g 195, g 196], []⟩ := by
  obtain ⟨hd, hs, h0, h1, h2, h3, h7, h8, h9, h10⟩ := h
  refine ⟨fun t => a.tmps.getD t undef, ?_⟩
  have e := frame_open 197 a hd hs
  generalize hg : (fun t => a.tmps.getD t undef) = g at e
  have g0 : g 0 = .pointer (some ⟨F, 0, none⟩) := by rw [← hg]; exact h0
  have g1 : g 1 = .int .i64 s := by rw [← hg]; exact h1
  have g2 : g 2 = .pointer (some ⟨b, 0, none⟩) := by rw [← hg]; exact h2
  have g3 : g 3 = .map none := by rw [← hg]; exact h3
  have g7 : g 7 = v7 := by rw [← hg]; exact h7
  have g8 : g 8 = v8 := by rw [← hg]; exact h8
  have g9 : g 9 = v9 := by rw [← hg]; exact h9
  have g10 : g 10 = v10 := by rw [← hg]; exact h10
  have e2 : ((List.range 197).map g).toArray = #[g 0, g 1, g 2, g 3, g 4, g 5, g 6, g 7, g 8, g 9, g 10, g 11, g 12, g 13, g 14, g 15, g 16, g 17, g 18, g 19, g 20, g 21, g 22, g 23, g 24, g 25, g 26, g 27, g 28, g 29, g 30, g 31, g 32, g 33, g 34, g 35, g 36, g 37, g 38, g 39, g 40, g 41, g 42, g 43, g 44, g 45, g 46, g 47, g 48, g 49, g 50, g 51, g 52, g 53, g 54, g 55, g 56, g 57, g 58, g 59, g 60, g 61, g 62, g 63, g 64, g 65, g 66, g 67, g 68, g 69, g 70, g 71, g 72, g 73, g 74, g 75, g 76, g 77, g 78, g 79, g 80, g 81, g 82, g 83, g 84, g 85, g 86, g 87, g 88, g 89, g 90, g 91, g 92, g 93, g 94, g 95, g 96, g 97, g 98, g 99, g 100, g 101, g 102, g 103, g 104, g 105, g 106, g 107, g 108, g 109, g 110, g 111, g 112, g 113, g 114, g 115, g 116, g 117, g 118, g 119, g 120, g 121, g 122, g 123, g 124, g 125, g 126, g 127, g 128, g 129, g 130, g 131, g 132, g 133, g 134, g 135, g 136, g 137, g 138, g 139, g 140, g 141, g 142, g 143, g 144, g 145, g 146, g 147, g 148, g 149, g 150, g 151, g 152, g 153, g 154, g 155, g 156, g 157, g 158, g 159, g 160, g 161, g 162, g 163, g 164, g 165, g 166, g 167, g 168, g 169, g 170, g 171, g 172, g 173, g 174, g 175, g 176, g 177, g 178, g 179, g 180, g 181, g 182, g 183, g 184, g 185, g 186, g 187, g 188, g 189, g 190, g 191, g 192, g 193, g 194, g 195, g 196] := rfl
  rw [g0, g1, g2, g3, g7, g8, g9, g10] at e2
  rw [e, e2]
noncomputable def c331 (k : Nat) : Code := nth k (Tryz.f331.body.getD .skip)
noncomputable def t331 (k : Nat) : Code := tl k (Tryz.f331.body.getD .skip)
theorem r_0 {Q : Exit → Act → World → Prop} {wB w : World} {F b : Nat} {p s typ : Int} {bs : List Int} {q : QP} {xs : List SV} {A : Option Addr} {c : Nat} {a : Act} {v7 v8 v9 v10 : Value} (hp : p = 3 ∨ p = 4) (hQ : BCells wB b typ xs.length q A c) (hF : Fs wB w F p) (hI : I331 F b s v7 v8 v9 v10 a)
    (h : ∀ a' w' G, I331 F b s (.pointer (some ⟨G, 0, none⟩)) .nilIface v9 v10 a' → Fs wB w' F p → Ri w' (some G) → Q .normal a' w') : Code.wp Tryz.prog (c331 0) Q a w := by
  obtain ⟨g, rfl⟩ := hI.open_
  clear hI
  conv => arg 2; whnf
  go_wp2
  refine h _ _ w.heap.size ⟨rfl, rfl, rfl, rfl, rfl, rfl, rfl, rfl, rfl, rfl⟩ (hF.alloc _) ?_
  rintro G ⟨⟩
  exact heap_alloc_new _ _
theorem r_1 {Q : Exit → Act → World → Prop} {wB w : World} {F b : Nat} {p s typ : Int} {bs : List Int} {q : QP} {xs : List SV} {A : Option Addr} {c : Nat} {a : Act} {v7 v8 v9 v10 : Value} (hp : p = 3 ∨ p = 4) (hQ : BCells wB b typ xs.length q A c) {G : Nat} (kG : w.cell? ⟨G, 0, none⟩ = some (.map none)) (hI : I331 F b s (.pointer (some ⟨G, 0, none⟩)) v8 v9 v10 a)
    (h : ∀ a', I331 F b s (.pointer (some ⟨G, 0, none⟩)) v8 v9 v10 a' → Q .normal a' w) : Code.wp Tryz.prog (c331 1) Q a w := by
  obtain ⟨g, rfl⟩ := hI.open_
  clear hI
  conv => arg 2; whnf
  go_wp2
  exact ⟨rfl, rfl, rfl, rfl, rfl, rfl, rfl, rfl, rfl, rfl⟩
theorem r_2 {Q : Exit → Act → World → Prop} {wB w : World} {F b : Nat} {p s typ : Int} {bs : List Int} {q : QP} {xs : List SV} {A : Option Addr} {c : Nat} {a : Act} {v7 v8 v9 v10 : Value} (hp : p = 3 ∨ p = 4) (hQ : BCells wB b typ xs.length q A c) {o : Option Nat} (hF : Fs wB w F p) (hR : Ri w o) (hI : I331 F b s v7 v8 v9 v10 a)
    (h : ∀ a' w', I331 F b s v7 v8 v9 v10 a' → Fr wB w' F p (hdr0 p 13 s ++ []) → Ri w' o → Q .normal a' w') : Code.wp Tryz.prog (c331 2) Q a w := by
  obtain ⟨g, rfl⟩ := hI.open_
  clear hI
  conv => arg 2; whnf
  have hfl := hF.flags
  go_wp2_with (go_at_call 278; refine (header_ wB F p 13 s w o hp hF hR).mono ?_; rintro e w1 ⟨rfl, hW1, hR1⟩)
  exact h _ _ ⟨rfl, rfl, rfl, rfl, rfl, rfl, rfl, rfl, rfl, rfl⟩ hW1 hR1
theorem r_3 {Q : Exit → Act → World → Prop} {wB w : World} {F b : Nat} {p s typ : Int} {bs : List Int} {q : QP} {xs : List SV} {A : Option Addr} {c : Nat} {a : Act} {v7 v8 v9 v10 : Value} (hp : p = 3 ∨ p = 4) (hQ : BCells wB b typ xs.length q A c) {G : Nat} (kG : w.cell? ⟨G, 0, none⟩ = some (.map none)) (hI : I331 F b s (.pointer (some ⟨G, 0, none⟩)) v8 v9 v10 a)
    (h : ∀ a', I331 F b s (.pointer (some ⟨G, 0, none⟩)) v8 v9 v10 a' → Q .normal a' w) : Code.wp Tryz.prog (c331 3) Q a w := by
  obtain ⟨g, rfl⟩ := hI.open_
  clear hI
  conv => arg 2; whnf
  go_wp2_with (go_at_call 309; refine (payload_nil F _ w kG).mono ?_; rintro e w1 ⟨rfl, rfl⟩)
  exact ⟨rfl, rfl, rfl, rfl, rfl, rfl, rfl, rfl, rfl, rfl⟩
theorem r_4 {Q : Exit → Act → World → Prop} {wB w : World} {F b : Nat} {p s typ : Int} {bs : List Int} {q : QP} {xs : List SV} {A : Option Addr} {c : Nat} {a : Act} {v7 v8 v9 v10 : Value} (hp : p = 3 ∨ p = 4) (hQ : BCells wB b typ xs.length q A c) (hW : Fr wB w F p bs) (hl : bs.length + 1 ≤ 1000000000) (hI : I331 F b s v7 v8 v9 v10 a)
    (h : ∀ a' w', I331 F b s v7 v8 v9 v10 a' → Fr wB w' F p (bs ++ [typ]) → Q .normal a' w') : Code.wp Tryz.prog (c331 4) Q a w := by
  obtain ⟨k0, k1, k2, k3, k4, k5, k6⟩ := hQ.later hW.1
  have kp := hW.proto
  have hp2 : decide (2 < p) = true := by rcases hp with rfl | rfl <;> rfl
  have hp4 : decide (4 < p) = false := by rcases hp with rfl | rfl <;> rfl
  obtain ⟨g, rfl⟩ := hI.open_
  clear hI
  conv => arg 2; whnf
  go_wp2_with (go_at_call 316; refine (writeByte_any wB F p bs _ _ hl hW).mono ?_; rintro e w1 ⟨rfl, hW1⟩)
  exact h _ _ ⟨rfl, rfl, rfl, rfl, rfl, rfl, rfl, rfl, rfl, rfl⟩ hW1
theorem r_5 {Q : Exit → Act → World → Prop} {wB w : World} {F b : Nat} {p s typ : Int} {bs : List Int} {q : QP} {xs : List SV} {A : Option Addr} {c : Nat} {a : Act} {v7 v8 v9 v10 : Value} (hp : p = 3 ∨ p = 4) (hQ : BCells wB b typ xs.length q A c) (hW : Fr wB w F p bs) (hI : I331 F b s v7 v8 v9 v10 a)
    (h : ∀ a', I331 F b s v7 v8 (.int .i64 xs.length) v10 a' → Q .normal a' w) : Code.wp Tryz.prog (c331 5) Q a w := by
  obtain ⟨k0, k1, k2, k3, k4, k5, k6⟩ := hQ.later hW.1
  have kp := hW.proto
  have hp2 : decide (2 < p) = true := by rcases hp with rfl | rfl <;> rfl
  have hp4 : decide (4 < p) = false := by rcases hp with rfl | rfl <;> rfl
  obtain ⟨g, rfl⟩ := hI.open_
  clear hI
  conv => arg 2; whnf
  go_wp2
  exact ⟨rfl, rfl, rfl, rfl, rfl, rfl, rfl, rfl, rfl, rfl⟩
theorem r_6 {Q : Exit → Act → World → Prop} {wB w : World} {F b : Nat} {p s typ : Int} {bs : List Int} {q : QP} {xs : List SV} {A : Option Addr} {c : Nat} {a : Act} {v7 v8 v9 v10 : Value} (hp : p = 3 ∨ p = 4) (hQ : BCells wB b typ xs.length q A c) (hW : Fr wB w F p bs) (hl : bs.length + 2 ≤ 1000000000) (hN : xs.length ≤ 10) (hI : I331 F b s v7 v8 (.int .i64 xs.length) v10 a)
    (h : ∀ a' w', I331 F b s v7 v8 (.int .i64 xs.length) v10 a' → Fr wB w' F p (bs ++ be 2 xs.length) → Q .normal a' w') : Code.wp Tryz.prog (c331 6) Q a w := by
  obtain ⟨k0, k1, k2, k3, k4, k5, k6⟩ := hQ.later hW.1
  have kp := hW.proto
  have hp2 : decide (2 < p) = true := by rcases hp with rfl | rfl <;> rfl
  have hp4 : decide (4 < p) = false := by rcases hp with rfl | rfl <;> rfl
  obtain ⟨g, rfl⟩ := hI.open_
  clear hI
  conv => arg 2; whnf
  go_wp2_with (go_at_call 281; refine (writeShort_any wB F p bs _ _ hl hW).mono ?_; rintro e w1 ⟨rfl, hW1⟩)
  exact h _ _ ⟨rfl, rfl, rfl, rfl, rfl, rfl, rfl, rfl, rfl, rfl⟩ hW1
theorem r_7 {Q : Exit → Act → World → Prop} {wB w : World} {F b : Nat} {p s typ : Int} {bs : List Int} {q : QP} {xs : List SV} {A : Option Addr} {c : Nat} {a : Act} {v7 v8 v9 v10 : Value} (hp : p = 3 ∨ p = 4) (hQ : BCells wB b typ xs.length q A c) (hW : Fr wB w F p bs) (hI : I331 F b s v7 v8 v9 v10 a)
    (h : ∀ a', I331 F b s v7 v8 v9 (.int .u8 0) a' → Q .normal a' w) : Code.wp Tryz.prog (c331 7) Q a w := by
  obtain ⟨k0, k1, k2, k3, k4, k5, k6⟩ := hQ.later hW.1
  have kp := hW.proto
  have hp2 : decide (2 < p) = true := by rcases hp with rfl | rfl <;> rfl
  have hp4 : decide (4 < p) = false := by rcases hp with rfl | rfl <;> rfl
  obtain ⟨g, rfl⟩ := hI.open_
  clear hI
  conv => arg 2; whnf
  go_wp2
  exact ⟨rfl, rfl, rfl, rfl, rfl, rfl, rfl, rfl, rfl, rfl⟩
theorem r_9 {Q : Exit → Act → World → Prop} {wB w : World} {F b : Nat} {p s typ : Int} {bs : List Int} {q : QP} {xs : List SV} {A : Option Addr} {c : Nat} {a : Act} {v7 v8 v9 v10 : Value} (hp : p = 3 ∨ p = 4) (hQ : BCells wB b typ xs.length q A c) (hW : Fr wB w F p bs) (hl : bs.length + 2 ≤ 1000000000) (hI : I331 F b s v7 v8 v9 v10 a)
    (h : ∀ a' w', I331 F b s v7 v8 v9 v10 a' → Fr wB w' F p (bs ++ be 2 q.cons) → Q .normal a' w') : Code.wp Tryz.prog (c331 9) Q a w := by
  obtain ⟨k0, k1, k2, k3, k4, k5, k6⟩ := hQ.later hW.1
  have kp := hW.proto
  have hp2 : decide (2 < p) = true := by rcases hp with rfl | rfl <;> rfl
  have hp4 : decide (4 < p) = false := by rcases hp with rfl | rfl <;> rfl
  obtain ⟨g, rfl⟩ := hI.open_
  clear hI
  conv => arg 2; whnf
  go_wp2_with (go_at_call 314; refine (writeConsistency_any wB F p bs _ _ hl hW).mono ?_; rintro e w1 ⟨rfl, hW1⟩)
  exact h _ _ ⟨rfl, rfl, rfl, rfl, rfl, rfl, rfl, rfl, rfl, rfl⟩ hW1
theorem r_8 {Q : Exit → Act → World → Prop} {wB w : World} {F b : Nat} {p s typ : Int} {bs : List Int} {q : QP} {xs : List SV} {A : Option Addr} {c : Nat} {a : Act} {v7 v8 v9 v10 : Value} (hp : p = 3 ∨ p = 4) (hQ : BCells wB b typ xs.length q A c) (hW : Fr wB w F p bs) (hR : SRow wB A xs) (hN : xs.length ≤ 10) (hok : ∀ x ∈ xs, x.ok) (hl : bs.length ≤ 900000000) (hI : I331 F b s v7 v8 (.int .i64 xs.length) (.int .u8 0) a)
    (h : ∀ a' w', I331 F b s v7 v8 (.int .i64 xs.length) (.int .u8 0) a' → Fr wB w' F p (bs ++ xs.flatMap stbytes) → Q .normal a' w') : Code.wp Tryz.prog (c331 8) Q a w := by
  obtain ⟨g, rfl⟩ := hI.open_
  clear hI
  conv => arg 2; whnf
  have HR := Lib.hid hR
  have Hok := Lib.hid hok
  have HQ := Lib.hid hQ
  have HW0 := Lib.hid hW
  have Hh := Lib.hid h
  have hp2 : decide (2 < p) = true := by rcases hp with rfl | rfl <;> rfl
  clear hR hok hQ hW h hp
  go_wp2
  go_loopw [8, 10, 11] (fun x8 x10 v11 W => ∃ i : Nat, v11 = .int .i64 i ∧ v8 = x8 ∧ x10 = .int .u8 0 ∧ i ≤ xs.length ∧ Hid (Fr wB W F p (bs ++ (xs.take i).flatMap stbytes))) (fun _ _ v11 _ => xs.length - (intOf v11).toNat)
  case atStart => exact ⟨0, rfl, rfl, rfl, by omega, Lib.hid (by simpa using HW0.out)⟩
  case round =>
    obtain ⟨i, rfl, rfl, rfl, hi, HW2⟩ := hrel
    clear HW0
    by_cases hlt : i < xs.length
    · have hx : xs[i]? = some xs[i] := List.getElem?_eq_getElem hlt
      obtain ⟨gq, hA, hrow⟩ := HR.out (by omega)
      obtain ⟨Ai, ci, Av, cv, hkid, hrid, hkst, hkvs, hvrow⟩ := hrow i _ hx
      have hxok := Hok.out _ (List.getElem_mem hlt)
      have hsn := Lib.hid (flat_snoc stbytes xs i _ hx)
      have hcl : (bs ++ (xs.take i).flatMap stbytes).length ≤ 900070000 := by
        have h1 := flat_le stbytes 6120 (xs.take i) (fun y hy => stbytes_le y (Hok.out y (List.mem_of_mem_take hy)))
        have h2 : (xs.take i).length ≤ 10 := by rw [List.length_take]; omega
        simp only [List.length_append]; omega
      generalize xs[i] = x at *
      generalize hcs0 : bs ++ (xs.take i).flatMap stbytes = cs at *
      have hcs := Lib.hid hcs0
      clear hcs0
      have HL : Hid (∀ W, Below wB.heap.size wB W → W.cell? ⟨b, 1, none⟩ = some (.slice (some ⟨gq, 0, none⟩) xs.length c) ∧ W.cell? ⟨gq, i * 3, none⟩ = some (.slice Ai x.id.length ci) ∧ W.cell? ⟨gq, i * 3 + 1, none⟩ = some (.string x.st) ∧ W.cell? ⟨gq, i * 3 + 2, none⟩ = some (.slice Av x.vals.length cv)) := by
        refine Lib.hid (fun W hb => ?_)
        obtain ⟨_, h2, _⟩ := HQ.out.later hb
        rw [hA] at h2
        exact ⟨h2, (hb.cell (p := ⟨gq, i * 3, none⟩) (World.block_lt_of_cell? wB _ hkid)).trans hkid, (hb.cell (p := ⟨gq, i * 3 + 1, none⟩) (World.block_lt_of_cell? wB _ hkst)).trans hkst, (hb.cell (p := ⟨gq, i * 3 + 2, none⟩) (World.block_lt_of_cell? wB _ hkvs)).trans hkvs⟩
      have HV := Lib.hid hvrow
      have HI := Lib.hid hrid
      have HVok : Hid (∀ y ∈ x.vals, y.ok ∧ y.name = ⟨#[]⟩) := Lib.hid hxok.2.2.2
      have hv20 : x.vals.length ≤ 20 := hxok.2.2.1
      have hst : x.st.size ≤ 100 := hxok.2.1
      have hid : x.id.length ≤ 100 := hxok.1
      clear hkid hkst hkvs hrow hA hx hvrow hrid hxok
      obtain ⟨k1, kid, kst, kvs⟩ := HL.out wr HW2.out.1
      by_cases h0 : x.id.length = 0
      · have Hst : Hid (stbytes x = ([0] ++ (be 4 x.st.size ++ bytesOf x.st)) ++ svals x) := Lib.hid (by simp [stbytes, shead, h0])
        go_wp2_with (first | (go_at_call 316; refine (writeByte_any wB F p cs 0 _ (by omega) HW2.out).mono ?_; rintro e w2 ⟨rfl, hW3⟩; clear k1 kid kst kvs; obtain ⟨k1, kid, kst, kvs⟩ := HL.out w2 hW3.1) | (go_at_call 310; refine (writeLongString_any wB F p (cs ++ [0]) x.st _ (by omega) (by simp only [List.length_append, be_length, bytesOf_length, List.length_singleton]; omega) hW3).mono ?_; rintro e w3 ⟨rfl, hW4⟩; clear k1 kid kst kvs; obtain ⟨k1, kid, kst, kvs⟩ := HL.out w3 hW4.1) | (go_at_call 281; refine (writeShort_any wB F p (cs ++ [0] ++ (be 4 x.st.size ++ bytesOf x.st)) _ _ (by simp only [List.length_append, be_length, bytesOf_length, List.length_singleton]; omega) hW4).mono ?_; rintro e w4 ⟨rfl, hH⟩; clear k1 kid kst kvs; obtain ⟨k1, kid, kst, kvs⟩ := HL.out w4 hH.1))
        clear hW3 hW4
        have hc2 : (cs ++ [0] ++ (be 4 x.st.size ++ bytesOf x.st) ++ be 2 x.vals.length).length ≤ 900080000 := (by simp only [List.length_append, be_length, bytesOf_length, List.length_singleton]; omega)
        generalize hcs2 : cs ++ [0] ++ (be 4 x.st.size ++ bytesOf x.st) ++ be 2 x.vals.length = cs2 at hH hc2
        have HH := Lib.hid hH
        clear hH
        have Hcs2 := Lib.hid hcs2
        clear hcs2
        go_loopw [8, 10, 91] (fun x8 x10 v91 W => ∃ j : Nat, v91 = .int .i64 j ∧ v8 = x8 ∧ x10 = .int .u8 0 ∧ j ≤ x.vals.length ∧ Hid (Fr wB W F p (cs2 ++ (x.vals.take j).flatMap (vbytes false)))) (fun _ _ v91 _ => x.vals.length - (intOf v91).toNat)
        case atStart => exact ⟨0, rfl, rfl, rfl, by omega, Lib.hid (by simpa using HH.out)⟩
        case round =>
          obtain ⟨j, rfl, rfl, rfl, hj, HW5⟩ := hrel
          clear HH
          clear k1 kid kst kvs
          obtain ⟨k1, kid, kst, kvs⟩ := HL.out wr HW5.out.1
          by_cases hjt : j < x.vals.length
          · have hy : x.vals[j]? = some x.vals[j] := List.getElem?_eq_getElem hjt
            obtain ⟨gy, hA, hrowy⟩ := HV.out (by omega)
            obtain ⟨vy, hdat, hkv, hkn, hku⟩ := hrowy j _ hy
            obtain ⟨hyok, hyn⟩ := HVok.out _ (List.getElem_mem hjt)
            have hsny := Lib.hid (flat_snoc (vbytes false) x.vals j _ hy)
            have hfl : ((x.vals.take j).flatMap (vbytes false)).length ≤ 6000 := by
              have h1 := flat_le (vbytes false) 300 (x.vals.take j) (fun y hy => vbytes_le false y (HVok.out y (List.mem_of_mem_take hy)).1)
              have h2 : (x.vals.take j).length ≤ 20 := by rw [List.length_take]; omega
              omega
            have hcly : (cs2 ++ (x.vals.take j).flatMap (vbytes false)).length ≤ 900100000 := by
              simp only [List.length_append]; omega
            generalize x.vals[j] = y at *
            generalize hds : cs2 ++ (x.vals.take j).flatMap (vbytes false) = ds at *
            have Hds := Lib.hid hds
            clear hds
            have kv := (HW5.out.1.cell (p := ⟨gy, j * 3, none⟩) (World.block_lt_of_cell? wB _ hkv)).trans hkv
            have kn := (HW5.out.1.cell (p := ⟨gy, j * 3 + 1, none⟩) (World.block_lt_of_cell? wB _ hkn)).trans hkn
            have ku := (HW5.out.1.cell (p := ⟨gy, j * 3 + 2, none⟩) (World.block_lt_of_cell? wB _ hku)).trans hku
            have kp2 : ∀ o, (wr.alloc o).cell? ⟨F, 0, none⟩ = some (.int .u8 p) := fun o => (HW5.out.alloc o).proto
            subst hA
            clear hkv hkn hku hrowy hy kid kst k1
            obtain ⟨yval, yname, yun⟩ := y
            simp only at kv kn ku hdat hyok hyn
            subst hyn
            have hvl := Lib.hid hyok.2
            clear hyok
            have HW6 := Lib.hid HW5.out
            cases yun with
            | true =>
              cases yval with
              | none =>
                obtain rfl : vy = .slice none 0 0 := hdat
                go_wp2_with (go_at_call 317; refine (writeUnset_any wB F p ds _ (by omega) (HW6.out.alloc _)).mono ?_; rintro e w4 ⟨rfl, hW4⟩)
                go_roundw
                case rel =>
                  refine ⟨j + 1, by go_num, rfl, rfl, by omega, Lib.hid ?_⟩
                  rw [hsny.out, ← List.append_assoc, Hds.out]
                  simpa [vbytes, List.append_assoc] using hW4
                case measure => simp [intOf]; omega
              | some l =>
                obtain ⟨ad, cv2, rfl, hrd0⟩ := hdat
                clear hrd0
                go_wp2_with (go_at_call 317; refine (writeUnset_any wB F p ds _ (by omega) (HW6.out.alloc _)).mono ?_; rintro e w4 ⟨rfl, hW4⟩)
                go_roundw
                case rel =>
                  refine ⟨j + 1, by go_num, rfl, rfl, by omega, Lib.hid ?_⟩
                  rw [hsny.out, ← List.append_assoc, Hds.out]
                  simpa [vbytes, List.append_assoc] using hW4
                case measure => simp [intOf]; omega
            | false =>
              cases yval with
              | none =>
                obtain rfl : vy = .slice none 0 0 := hdat
                go_wp2_with (go_at_call 318; refine (writeBytes_nil wB F p ds _ (by omega) (HW6.out.alloc _)).mono ?_; rintro e w4 ⟨rfl, hW4⟩)
                go_roundw
                case rel =>
                  refine ⟨j + 1, by go_num, rfl, rfl, by omega, Lib.hid ?_⟩
                  rw [hsny.out, ← List.append_assoc, Hds.out]
                  simpa [vbytes, List.append_assoc] using hW4
                case measure => simp [intOf]; omega
              | some l =>
                obtain ⟨ad, cv2, rfl, hrd0⟩ := hdat
                have hrd := Lib.hid hrd0
                have hll : l.length ≤ 100 := hvl.out l rfl
                clear hrd0
                go_wp2_with (go_at_call 318; refine (writeBytes_some wB F p ds l ad l.length cv2 _ rfl (by omega) (by omega) (HW6.out.alloc _) hrd.out).mono ?_; rintro e w4 ⟨rfl, hW4⟩)
                go_roundw
                case rel =>
                  refine ⟨j + 1, by go_num, rfl, rfl, by omega, Lib.hid ?_⟩
                  rw [hsny.out, ← List.append_assoc, Hds.out]
                  simpa [vbytes, List.append_assoc] using hW4
                case measure => simp [intOf]; omega
          · go_wp2
            go_roundw
            case rel =>
              have hjj : j = x.vals.length := by omega
              have hW3 := HW5.out
              rw [hjj, List.take_length] at hW3
              refine ⟨i + 1, by go_num, rfl, rfl, by omega, Lib.hid ?_⟩
              rw [← Hcs2.out] at hW3
              rw [hsn.out, ← List.append_assoc, hcs.out, Hst.out]
              simpa [svals, List.append_assoc] using hW3
            case measure => simp [intOf]; omega
      · have Hst : Hid (stbytes x = ([1] ++ (be 2 x.id.length ++ x.id)) ++ svals x) := Lib.hid (by simp [stbytes, shead, h0])
        have h0' : ((x.id.length : Int) == 0) = false := by simpa using h0
        go_wp2_with (first | (go_at_call 316; refine (writeByte_any wB F p cs 1 _ (by omega) HW2.out).mono ?_; rintro e w2 ⟨rfl, hW3⟩; clear k1 kid kst kvs; obtain ⟨k1, kid, kst, kvs⟩ := HL.out w2 hW3.1) | (go_at_call 326; refine (writeShortBytes_any wB F p (cs ++ [1]) x.id Ai _ ci _ rfl (by omega) (by simp only [List.length_append, be_length, bytesOf_length, List.length_singleton]; omega) hW3 HI.out).mono ?_; rintro e w3 ⟨rfl, hW4⟩; clear k1 kid kst kvs; obtain ⟨k1, kid, kst, kvs⟩ := HL.out w3 hW4.1) | (go_at_call 281; refine (writeShort_any wB F p (cs ++ [1] ++ (be 2 x.id.length ++ x.id)) _ _ (by simp only [List.length_append, be_length, bytesOf_length, List.length_singleton]; omega) hW4).mono ?_; rintro e w4 ⟨rfl, hH⟩; clear k1 kid kst kvs; obtain ⟨k1, kid, kst, kvs⟩ := HL.out w4 hH.1))
        clear hW3 hW4
        have hc2 : (cs ++ [1] ++ (be 2 x.id.length ++ x.id) ++ be 2 x.vals.length).length ≤ 900080000 := (by simp only [List.length_append, be_length, bytesOf_length, List.length_singleton]; omega)
        generalize hcs2 : cs ++ [1] ++ (be 2 x.id.length ++ x.id) ++ be 2 x.vals.length = cs2 at hH hc2
        have HH := Lib.hid hH
        clear hH
        have Hcs2 := Lib.hid hcs2
        clear hcs2
        go_loopw [8, 10, 91] (fun x8 x10 v91 W => ∃ j : Nat, v91 = .int .i64 j ∧ v8 = x8 ∧ x10 = .int .u8 0 ∧ j ≤ x.vals.length ∧ Hid (Fr wB W F p (cs2 ++ (x.vals.take j).flatMap (vbytes false)))) (fun _ _ v91 _ => x.vals.length - (intOf v91).toNat)
        case atStart => exact ⟨0, rfl, rfl, rfl, by omega, Lib.hid (by simpa using HH.out)⟩
        case round =>
          obtain ⟨j, rfl, rfl, rfl, hj, HW5⟩ := hrel
          clear HH
          clear k1 kid kst kvs
          obtain ⟨k1, kid, kst, kvs⟩ := HL.out wr HW5.out.1
          by_cases hjt : j < x.vals.length
          · have hy : x.vals[j]? = some x.vals[j] := List.getElem?_eq_getElem hjt
            obtain ⟨gy, hA, hrowy⟩ := HV.out (by omega)
            obtain ⟨vy, hdat, hkv, hkn, hku⟩ := hrowy j _ hy
            obtain ⟨hyok, hyn⟩ := HVok.out _ (List.getElem_mem hjt)
            have hsny := Lib.hid (flat_snoc (vbytes false) x.vals j _ hy)
            have hfl : ((x.vals.take j).flatMap (vbytes false)).length ≤ 6000 := by
              have h1 := flat_le (vbytes false) 300 (x.vals.take j) (fun y hy => vbytes_le false y (HVok.out y (List.mem_of_mem_take hy)).1)
              have h2 : (x.vals.take j).length ≤ 20 := by rw [List.length_take]; omega
              omega
            have hcly : (cs2 ++ (x.vals.take j).flatMap (vbytes false)).length ≤ 900100000 := by
              simp only [List.length_append]; omega
            generalize x.vals[j] = y at *
            generalize hds : cs2 ++ (x.vals.take j).flatMap (vbytes false) = ds at *
            have Hds := Lib.hid hds
            clear hds
            have kv := (HW5.out.1.cell (p := ⟨gy, j * 3, none⟩) (World.block_lt_of_cell? wB _ hkv)).trans hkv
            have kn := (HW5.out.1.cell (p := ⟨gy, j * 3 + 1, none⟩) (World.block_lt_of_cell? wB _ hkn)).trans hkn
            have ku := (HW5.out.1.cell (p := ⟨gy, j * 3 + 2, none⟩) (World.block_lt_of_cell? wB _ hku)).trans hku
            have kp2 : ∀ o, (wr.alloc o).cell? ⟨F, 0, none⟩ = some (.int .u8 p) := fun o => (HW5.out.alloc o).proto
            subst hA
            clear hkv hkn hku hrowy hy kid kst k1
            obtain ⟨yval, yname, yun⟩ := y
            simp only at kv kn ku hdat hyok hyn
            subst hyn
            have hvl := Lib.hid hyok.2
            clear hyok
            have HW6 := Lib.hid HW5.out
            cases yun with
            | true =>
              cases yval with
              | none =>
                obtain rfl : vy = .slice none 0 0 := hdat
                go_wp2_with (go_at_call 317; refine (writeUnset_any wB F p ds _ (by omega) (HW6.out.alloc _)).mono ?_; rintro e w4 ⟨rfl, hW4⟩)
                go_roundw
                case rel =>
                  refine ⟨j + 1, by go_num, rfl, rfl, by omega, Lib.hid ?_⟩
                  rw [hsny.out, ← List.append_assoc, Hds.out]
                  simpa [vbytes, List.append_assoc] using hW4
                case measure => simp [intOf]; omega
              | some l =>
                obtain ⟨ad, cv2, rfl, hrd0⟩ := hdat
                clear hrd0
                go_wp2_with (go_at_call 317; refine (writeUnset_any wB F p ds _ (by omega) (HW6.out.alloc _)).mono ?_; rintro e w4 ⟨rfl, hW4⟩)
                go_roundw
                case rel =>
                  refine ⟨j + 1, by go_num, rfl, rfl, by omega, Lib.hid ?_⟩
                  rw [hsny.out, ← List.append_assoc, Hds.out]
                  simpa [vbytes, List.append_assoc] using hW4
                case measure => simp [intOf]; omega
            | false =>
              cases yval with
              | none =>
                obtain rfl : vy = .slice none 0 0 := hdat
                go_wp2_with (go_at_call 318; refine (writeBytes_nil wB F p ds _ (by omega) (HW6.out.alloc _)).mono ?_; rintro e w4 ⟨rfl, hW4⟩)
                go_roundw
                case rel =>
                  refine ⟨j + 1, by go_num, rfl, rfl, by omega, Lib.hid ?_⟩
                  rw [hsny.out, ← List.append_assoc, Hds.out]
                  simpa [vbytes, List.append_assoc] using hW4
                case measure => simp [intOf]; omega
              | some l =>
                obtain ⟨ad, cv2, rfl, hrd0⟩ := hdat
                have hrd := Lib.hid hrd0
                have hll : l.length ≤ 100 := hvl.out l rfl
                clear hrd0
                go_wp2_with (go_at_call 318; refine (writeBytes_some wB F p ds l ad l.length cv2 _ rfl (by omega) (by omega) (HW6.out.alloc _) hrd.out).mono ?_; rintro e w4 ⟨rfl, hW4⟩)
                go_roundw
                case rel =>
                  refine ⟨j + 1, by go_num, rfl, rfl, by omega, Lib.hid ?_⟩
                  rw [hsny.out, ← List.append_assoc, Hds.out]
                  simpa [vbytes, List.append_assoc] using hW4
                case measure => simp [intOf]; omega
          · go_wp2
            go_roundw
            case rel =>
              have hjj : j = x.vals.length := by omega
              have hW3 := HW5.out
              rw [hjj, List.take_length] at hW3
              refine ⟨i + 1, by go_num, rfl, rfl, by omega, Lib.hid ?_⟩
              rw [← Hcs2.out] at hW3
              rw [hsn.out, ← List.append_assoc, hcs.out, Hst.out]
              simpa [svals, List.append_assoc] using hW3
            case measure => simp [intOf]; omega
    · go_wp2
      have hii : i = xs.length := by omega
      have hW3 := HW2.out
      rw [hii, List.take_length] at hW3
      exact Hh.out _ _ ⟨rfl, rfl, rfl, rfl, rfl, rfl, rfl, rfl, rfl, rfl⟩ hW3
theorem r_10 {Q : Exit → Act → World → Prop} {wB w : World} {F b : Nat} {p s typ : Int} {bs : List Int} {q : QP} {xs : List SV} {A : Option Addr} {c : Nat} {a : Act} {v7 v8 v9 v10 : Value} (hp : p = 3 ∨ p = 4) (hQ : BCells wB b typ xs.length q A c) (hW : Fr wB w F p bs) (hl : bs.length ≤ 900000000) (hI : I331 F b s v7 v8 v9 (.int .u8 0) a)
    (h : ∀ a' w' x10, I331 F b s v7 v8 v9 x10 a' → Fr wB w' F p (bs ++ [bflags q] ++ opt_ (0 < q.serial) (be 2 q.serial) ++ opt_ (q.hasT = true) (be 8 q.t)) → Q .normal a' w') : Code.wp Tryz.prog (c331 10) Q a w := by
  obtain ⟨k0, k1, k2, k3, k4, k5, k6⟩ := hQ.later hW.1
  have kp := hW.proto
  have hp2 : decide (2 < p) = true := by rcases hp with rfl | rfl <;> rfl
  have hp4 : decide (4 < p) = false := by rcases hp with rfl | rfl <;> rfl
  obtain ⟨g, rfl⟩ := hI.open_
  clear hI
  conv => arg 2; whnf
  have HQ := Lib.hid hQ
  have b1 : bits BinOp.or IntKind.u8 0 16 = 16 := by decide
  have b2 : bits BinOp.or IntKind.u8 0 32 = 32 := by decide
  have b3 : bits BinOp.or IntKind.u8 16 32 = 48 := by decide
  clear hQ hp
  by_cases hs : 0 < q.serial
  · have Hs := Lib.hid hs
    by_cases ht : q.hasT = true
    · have Ht := Lib.hid ht
      rw [ht] at k4
      by_cases h0 : q.t = 0
      · have H0 := Lib.hid h0
        have h0' : (q.t == 0) = true := by simpa using h0
        go_wp2_with (first | (go_at_call 316; refine (writeByte_any wB F p bs 48 _ (by omega) hW).mono ?_; rintro e w2 ⟨rfl, hW2⟩; clear k0 k1 k2 k3 k4 k5 k6 kp; obtain ⟨k0, k1, k2, k3, k4, k5, k6⟩ := HQ.out.later hW2.1; have kp := hW2.proto) | (go_at_call 314; refine (writeConsistency_any wB F p (bs ++ [48]) _ _ (by simp only [List.length_append, be_length, bytesOf_length, List.length_singleton]; omega) hW2).mono ?_; rintro e w3 ⟨rfl, hW3⟩; clear k0 k1 k2 k3 k4 k5 k6 kp; obtain ⟨k0, k1, k2, k3, k4, k5, k6⟩ := HQ.out.later hW3.1; have kp := hW3.proto) | (go_at_call 319; refine (writeLong_any wB F p ((bs ++ [48]) ++ be 2 q.serial) 0 _ (by simp only [List.length_append, be_length, bytesOf_length, List.length_singleton]; omega) hW3).mono ?_; rintro e w4 ⟨rfl, hW4⟩))
        refine h _ _ (.int .u8 48) ⟨rfl, rfl, rfl, rfl, rfl, rfl, rfl, rfl, rfl, rfl⟩ ?_
        have Hs2 : 0 < q.serial := by have := Hs.out; omega
        have Ht2 : q.hasT = true := by simp [*]
        have e1 : bflags q = 48 := by simp [bflags, bit, Hs2, Ht2]
        rw [e1, opt_t Hs2, opt_t Ht2]
        rw [H0.out]
        simpa using hW4
      · have h0' : (q.t == 0) = false := by simpa using h0
        go_wp2_with (first | (go_at_call 316; refine (writeByte_any wB F p bs 48 _ (by omega) hW).mono ?_; rintro e w2 ⟨rfl, hW2⟩; clear k0 k1 k2 k3 k4 k5 k6 kp; obtain ⟨k0, k1, k2, k3, k4, k5, k6⟩ := HQ.out.later hW2.1; have kp := hW2.proto) | (go_at_call 314; refine (writeConsistency_any wB F p (bs ++ [48]) _ _ (by simp only [List.length_append, be_length, bytesOf_length, List.length_singleton]; omega) hW2).mono ?_; rintro e w3 ⟨rfl, hW3⟩; clear k0 k1 k2 k3 k4 k5 k6 kp; obtain ⟨k0, k1, k2, k3, k4, k5, k6⟩ := HQ.out.later hW3.1; have kp := hW3.proto) | (go_at_call 319; refine (writeLong_any wB F p ((bs ++ [48]) ++ be 2 q.serial) _ _ (by simp only [List.length_append, be_length, bytesOf_length, List.length_singleton]; omega) hW3).mono ?_; rintro e w4 ⟨rfl, hW4⟩))
        refine h _ _ (.int .u8 48) ⟨rfl, rfl, rfl, rfl, rfl, rfl, rfl, rfl, rfl, rfl⟩ ?_
        have Hs2 : 0 < q.serial := by have := Hs.out; omega
        have Ht2 : q.hasT = true := by simp [*]
        have e1 : bflags q = 48 := by simp [bflags, bit, Hs2, Ht2]
        rw [e1, opt_t Hs2, opt_t Ht2]
        simpa using hW4
    · have Ht := Lib.hid ht
      have ht' : q.hasT = false := by simpa using ht
      rw [ht'] at k4
      go_wp2_with (first | (go_at_call 316; refine (writeByte_any wB F p bs 16 _ (by omega) hW).mono ?_; rintro e w2 ⟨rfl, hW2⟩; clear k0 k1 k2 k3 k4 k5 k6 kp; obtain ⟨k0, k1, k2, k3, k4, k5, k6⟩ := HQ.out.later hW2.1; have kp := hW2.proto) | (go_at_call 314; refine (writeConsistency_any wB F p (bs ++ [16]) _ _ (by simp only [List.length_append, be_length, bytesOf_length, List.length_singleton]; omega) hW2).mono ?_; rintro e w3 ⟨rfl, hW3⟩; clear k0 k1 k2 k3 k4 k5 k6 kp; obtain ⟨k0, k1, k2, k3, k4, k5, k6⟩ := HQ.out.later hW3.1; have kp := hW3.proto))
      refine h _ _ (.int .u8 16) ⟨rfl, rfl, rfl, rfl, rfl, rfl, rfl, rfl, rfl, rfl⟩ ?_
      have Hs2 : 0 < q.serial := by have := Hs.out; omega
      have Ht2 : ¬ q.hasT = true := by simp [*]
      have e1 : bflags q = 16 := by simp [bflags, bit, Hs2, Ht2]
      rw [e1, opt_t Hs2, opt_f Ht2]
      simpa using hW3
  · have Hs := Lib.hid hs
    by_cases ht : q.hasT = true
    · have Ht := Lib.hid ht
      rw [ht] at k4
      by_cases h0 : q.t = 0
      · have H0 := Lib.hid h0
        have h0' : (q.t == 0) = true := by simpa using h0
        go_wp2_with (first | (go_at_call 316; refine (writeByte_any wB F p bs 32 _ (by omega) hW).mono ?_; rintro e w2 ⟨rfl, hW2⟩; clear k0 k1 k2 k3 k4 k5 k6 kp; obtain ⟨k0, k1, k2, k3, k4, k5, k6⟩ := HQ.out.later hW2.1; have kp := hW2.proto) | (go_at_call 319; refine (writeLong_any wB F p (bs ++ [32]) 0 _ (by simp only [List.length_append, be_length, bytesOf_length, List.length_singleton]; omega) hW2).mono ?_; rintro e w4 ⟨rfl, hW4⟩))
        refine h _ _ (.int .u8 32) ⟨rfl, rfl, rfl, rfl, rfl, rfl, rfl, rfl, rfl, rfl⟩ ?_
        have Hs2 : ¬ 0 < q.serial := by have := Hs.out; omega
        have Ht2 : q.hasT = true := by simp [*]
        have e1 : bflags q = 32 := by simp [bflags, bit, Hs2, Ht2]
        rw [e1, opt_f Hs2, opt_t Ht2]
        rw [H0.out]
        simpa using hW4
      · have h0' : (q.t == 0) = false := by simpa using h0
        go_wp2_with (first | (go_at_call 316; refine (writeByte_any wB F p bs 32 _ (by omega) hW).mono ?_; rintro e w2 ⟨rfl, hW2⟩; clear k0 k1 k2 k3 k4 k5 k6 kp; obtain ⟨k0, k1, k2, k3, k4, k5, k6⟩ := HQ.out.later hW2.1; have kp := hW2.proto) | (go_at_call 319; refine (writeLong_any wB F p (bs ++ [32]) _ _ (by simp only [List.length_append, be_length, bytesOf_length, List.length_singleton]; omega) hW2).mono ?_; rintro e w4 ⟨rfl, hW4⟩))
        refine h _ _ (.int .u8 32) ⟨rfl, rfl, rfl, rfl, rfl, rfl, rfl, rfl, rfl, rfl⟩ ?_
        have Hs2 : ¬ 0 < q.serial := by have := Hs.out; omega
        have Ht2 : q.hasT = true := by simp [*]
        have e1 : bflags q = 32 := by simp [bflags, bit, Hs2, Ht2]
        rw [e1, opt_f Hs2, opt_t Ht2]
        simpa using hW4
    · have Ht := Lib.hid ht
      have ht' : q.hasT = false := by simpa using ht
      rw [ht'] at k4
      go_wp2_with (first | (go_at_call 316; refine (writeByte_any wB F p bs 0 _ (by omega) hW).mono ?_; rintro e w2 ⟨rfl, hW2⟩; clear k0 k1 k2 k3 k4 k5 k6 kp; obtain ⟨k0, k1, k2, k3, k4, k5, k6⟩ := HQ.out.later hW2.1; have kp := hW2.proto))
      refine h _ _ (.int .u8 0) ⟨rfl, rfl, rfl, rfl, rfl, rfl, rfl, rfl, rfl, rfl⟩ ?_
      have Hs2 : ¬ 0 < q.serial := by have := Hs.out; omega
      have Ht2 : ¬ q.hasT = true := by simp [*]
      have e1 : bflags q = 0 := by simp [bflags, bit, Hs2, Ht2]
      rw [e1, opt_f Hs2, opt_f Ht2]
      simpa using hW2
theorem r_11 {Q : Exit → Act → World → Prop} {wB w : World} {F b : Nat} {p s typ : Int} {bs : List Int} {q : QP} {xs : List SV} {A : Option Addr} {c : Nat} {a : Act} {v7 v8 v9 v10 : Value} (hp : p = 3 ∨ p = 4) (hQ : BCells wB b typ xs.length q A c) {body : List Int} (hW : Fr wB w F p (hdr0 p 13 s ++ body)) (hl : body.length ≤ 100000) (hI : I331 F b s v7 v8 v9 v10 a)
    (h : ∀ a' w', I331 F b s v7 .nilIface v9 v10 a' → Fr wB w' F p (frame p 13 s body) → Q .normal a' w') : Code.wp Tryz.prog (c331 11) Q a w := by
  obtain ⟨g, rfl⟩ := hI.open_
  clear hI
  conv => arg 2; whnf
  go_wp2_with (go_at_call 280; refine (finish_ wB F p 13 s body _ hp (by omega) hW).mono ?_; rintro e w1 ⟨rfl, hW1⟩)
  exact h _ _ ⟨rfl, rfl, rfl, rfl, rfl, rfl, rfl, rfl, rfl, rfl⟩ hW1
theorem body331 : Tryz.f331.body = some ((c331 0).seq ((c331 1).seq ((c331 2).seq ((c331 3).seq ((c331 4).seq ((c331 5).seq ((c331 6).seq ((c331 7).seq ((c331 8).seq ((c331 9).seq ((c331 10).seq ((c331 11).seq (t331 12))))))))))))) := rfl
theorem t331_12 : t331 12 = .ret := rfl
attribute [local irreducible] c331 t331
theorem bbytes_le (typ : Int) (xs : List SV) (q : QP) (hN : xs.length ≤ 10) (hok : ∀ x ∈ xs, x.ok) : (bbytes typ xs q).length ≤ 90000 := by
  have h1 := flat_le stbytes 6120 xs (fun y hy => stbytes_le y (hok y hy))
  have o4 := opt_le (0 < q.serial) (be 2 q.serial)
  have o5 := opt_le (q.hasT = true) (be 8 q.t)
  simp only [be_length] at o4 o5
  unfold bbytes
  simp only [List.length_append, be_length, List.length_singleton]
  omega
theorem e331 (F b : Nat) (s : Int) (w : World) (R : Ending → World → Prop)
   (h : ∀ a : Act, I331 F b s undef undef undef undef a → Code.wp Tryz.prog ((c331 0).seq ((c331 1).seq ((c331 2).seq ((c331 3).seq ((c331 4).seq ((c331 5).seq ((c331 6).seq ((c331 7).seq ((c331 8).seq ((c331 9).seq ((c331 10).seq ((c331 11).seq (t331 12))))))))))))) (bodyPost Tryz.prog Tryz.f331 R) a w) :
    Calls Tryz.prog 331 #[.pointer (some ⟨F, 0, none⟩), .int .i64 s, .pointer (some ⟨b, 0, none⟩), .map none] w R := by
  refine calls_by 197 Tryz.func331 body331 Tryz.ntmps331 (by simp) fun a hd hs hg => ?_
  refine h a ⟨hd, hs, ?_, ?_, ?_, ?_, ?_, ?_, ?_, ?_⟩
  all_goals (rw [hg]; rfl)
theorem batch_any (wB : World) (F b : Nat) (p s typ : Int) (xs : List SV) (q : QP) (A : Option Addr) (c : Nat) (w : World) (hp : p = 3 ∨ p = 4) (hF : Fs wB w F p) (hN : xs.length ≤ 10) (hok : ∀ x ∈ xs, x.ok) (hR : SRow wB A xs) (hQ : BCells wB b typ xs.length q A c) :
    Calls Tryz.prog 331 #[.pointer (some ⟨F, 0, none⟩), .int .i64 s, .pointer (some ⟨b, 0, none⟩), .map none] w fun e w' => e = .returned .nilIface ∧ Fr wB w' F p (frame p 13 s (bbytes typ xs q)) := by
  have hbb := bbytes_le typ xs q hN hok
  have h1 := flat_le stbytes 6120 xs (fun y hy => stbytes_le y (hok y hy))
  refine e331 F b s w _ fun a hI => ?_
  refine wp_seq (r_0 (bs := []) hp hQ hF hI fun a0 w0 G hI hF hR0 => ?_)
  have k0 : w0.cell? ⟨G, 0, none⟩ = some (.map none) := (cell_of_row _ _ 0 _ _ _ (hR0 _ rfl)).trans rfl
  refine wp_seq (r_1 (bs := []) (v7 := undef) hp hQ k0 hI fun a1 hI => ?_)
  refine wp_seq (r_2 (bs := []) hp hQ hF hR0 hI fun a2 w2 hI hW hR2 => ?_)
  have k2 : w2.cell? ⟨G, 0, none⟩ = some (.map none) := (cell_of_row _ _ 0 _ _ _ (hR2 _ rfl)).trans rfl
  refine wp_seq (r_3 (bs := []) (v7 := undef) hp hQ k2 hI fun a3 hI => ?_)
  refine wp_seq (r_4 hp hQ hW (by simp only [hdr_len, List.length_nil]; omega) hI fun a4 w4 hI hW => ?_)
  refine wp_seq (r_5 hp hQ hW hI fun a5 hI => ?_)
  refine wp_seq (r_6 (v9 := undef) hp hQ hW (by simp only [List.length_append, List.length_nil, List.length_singleton, hdr0, List.length_cons]; omega) hN hI fun a6 w6 hI hW => ?_)
  refine wp_seq (r_7 hp hQ hW hI fun a7 hI => ?_)
  refine wp_seq (r_8 (v9 := undef) (v10 := undef) hp hQ hW hR hN hok (by simp only [List.length_append, List.length_nil, List.length_singleton, hdr0, List.length_cons, be_length]; omega) hI fun a8 w8 hI hW => ?_)
  refine wp_seq (r_9 hp hQ hW (by simp only [List.length_append, List.length_nil, List.length_singleton, hdr0, List.length_cons, be_length]; omega) hI fun a9 w9 hI hW => ?_)
  refine wp_seq (r_10 (v10 := undef) hp hQ hW (by simp only [List.length_append, List.length_nil, List.length_singleton, hdr0, List.length_cons, be_length]; omega) hI fun a10 w10 x10 hI hW => ?_)
  have hW' : Fr wB w10 F p (hdr0 p 13 s ++ bbytes typ xs q) := by simpa [bbytes, List.append_assoc] using hW
  refine wp_seq (r_11 (bs := []) hp hQ hW' (by omega) hI fun a11 w11 hI hW => ?_)
  rw [t331_12]
  obtain ⟨g, rfl⟩ := hI.open_
  go_wp2
  go_ret
  exact ⟨rfl, hW⟩
set_option maxHeartbeats 1000000 in
theorem b_batch (wB : World) (F b : Nat) (p s typ : Int) (xs : List SV) (q : QP) (A : Option Addr) (c : Nat) (w : World) (hp : p = 3 ∨ p = 4) (hF : Fs wB w F p) (hN : xs.length ≤ 10) (hok : ∀ x ∈ xs, x.ok) (hR : SRow wB A xs) (hQ : BCells wB b typ xs.length q A c) :
    Calls Tryz.prog 330 #[.pointer (some ⟨b, 0, none⟩), .pointer (some ⟨F, 0, none⟩), .int .i64 s] w fun e w' => e = .returned .nilIface ∧ Fr wB w' F p (frame p 13 s (bbytes typ xs q)) := by
  have HQ := Lib.hid hQ
  have k6 := (hQ.later hF.1).2.2.2.2.2.2
  have Hok := Lib.hid hok
  clear hQ hok
  go_enter Tryz.func330, Tryz.ntmps330
  go_wp2_with fail
  refine (batch_any wB F b p s typ xs q A c w hp hF hN Hok.out hR HQ.out).mono ?_
  rintro e w1 ⟨rfl, hW1⟩
  go_wp2_with fail
  go_ret
  exact ⟨rfl, hW1⟩
theorem info203 : (Tryz.prog.info? 203).map (fun i => (i.zero, i.size, i.bytes)) = some (some (.agg #[.slice none 0 0, .string ⟨#[]⟩, .slice none 0 0]), 3, 64) := by kernel_rfl
/-- A statement as ZZBatch is given it: its parts wherever they lie. -/
structure ZS where
  Ai : Option Addr
  mi : Nat
  ci : Nat
  st : ByteArray
  Av : Option Addr
  cv : Nat
  rs : List RV
/-- .. and as ZZBatch hands it on. -/
structure RS where
  Ai : Option Addr
  mi : Nat
  ci : Nat
  st : ByteArray
  Av : Option Addr
  mv : Nat
  cv : Nat
def RS.q (r : RS) : List Value := [.slice r.Ai r.mi r.ci, .string r.st, .slice r.Av r.mv r.cv]
def ZSRow (w : World) (A : Option Addr) (zs : List ZS) : Prop := 0 < zs.length → ∃ g, A = some ⟨g, 0, none⟩ ∧ ∀ i z, zs[i]? = some z → w.cell? ⟨g, i * 3, none⟩ = some (.slice z.Ai z.mi z.ci) ∧ w.cell? ⟨g, i * 3 + 1, none⟩ = some (.string z.st) ∧ w.cell? ⟨g, i * 3 + 2, none⟩ = some (.slice z.Av z.rs.length z.cv) ∧ ZRow w z.Av z.rs ∧ z.rs.length ≤ 20
/-- The statements are these. -/
def RSQ (w : World) (zs : List ZS) (xs : List SV) : Prop := zs.length = xs.length ∧ ∀ (i : Nat) (z : ZS) (x : SV), zs[i]? = some z → xs[i]? = some x → z.mi = x.id.length ∧ ReadsInt w .u8 z.Ai z.mi x.id ∧ z.st = x.st ∧ RQ w z.rs x.vals
/-- What has been handed on so far. -/
def RSOwn (W : World) (base : Nat) (zs : List ZS) (ss : List RS) : Prop := ∀ (i : Nat) (r : RS), ss[i]? = some r → ∃ z, zs[i]? = some z ∧ r.Ai = z.Ai ∧ r.mi = z.mi ∧ r.st = z.st ∧ r.mv = z.rs.length ∧ W.ownsRow base 280 3 (.slice r.Av r.mv r.cv) z.rs.length (z.rs.flatMap RV.q)
theorem RSOwn.map {W W1 : World} {base : Nat} {zs : List ZS} {ss : List RS} (h : RSOwn W base zs ss) (hm : ∀ v n xs, W.ownsRow base 280 3 v n xs → W1.ownsRow base 280 3 v n xs) : RSOwn W1 base zs ss := by
  intro i r hr
  obtain ⟨z, h1, h2, h3, h4, h5, h6⟩ := h i r hr
  exact ⟨z, h1, h2, h3, h4, h5, hm _ _ _ h6⟩
theorem srow_of {w W : World} {base c m : Nat} {A : Option Addr} {zs : List ZS} {xs : List SV} {ss : List RS} (hs : ss.length = zs.length) (h : W.ownsRow base 203 3 (.slice A m c) ss.length (ss.flatMap RS.q)) (ho : RSOwn W base zs ss) (hq : RSQ w zs xs) (hb : Below w.heap.size w W) : SRow W A xs := by
  intro h0
  obtain ⟨_, g, hA, _, hc⟩ := own_cells h (by rw [hs, hq.1]; exact h0)
  refine ⟨g, hA, fun i x hx => ?_⟩
  have hi : i < ss.length := by rw [hs, hq.1]; exact (List.getElem?_eq_some_iff.1 hx).1
  have hr : ss[i]? = some ss[i] := List.getElem?_eq_getElem hi
  obtain ⟨z, hz, e1, e2, e3, e4, hown⟩ := ho i _ hr
  obtain ⟨f1, f2, f3, f4⟩ := hq.2 i z x hz hx
  have hf := fun j (hj : j < 3) => flat_at RS.q 3 (fun _ => rfl) ss i _ j hr hj
  have hA1 : ss[i].Ai = z.Ai := e1
  refine ⟨ss[i].Ai, ss[i].ci, ss[i].Av, ss[i].cv, ?_, ?_, ?_, ?_, ?_⟩
  · rw [← f1, ← e2]; exact hc _ _ ((hf 0 (by omega)).trans rfl)
  · rw [e1, ← f1]; exact f2.below hb
  · rw [← f3, ← e3]; exact hc _ _ ((hf 1 (by omega)).trans rfl)
  · rw [← f4.1, ← e4]; exact hc _ _ ((hf 2 (by omega)).trans rfl)
  · exact qrow_of hown (f4.below_ hb)
set_option maxHeartbeats 4000000 in
theorem zz_batch (w : World) (p s typ : Int) (zs : List ZS) (xs : List SV) (A : Option Addr) (c : Nat) (q : QP) (A2 A4 : Option Addr) (n2 c2 c4 : Nat) (hp : p = 3 ∨ p = 4) (hN : xs.length ≤ 10) (hok : ∀ x ∈ xs, x.ok) (hR : ZSRow w A zs) (hQ : RSQ w zs xs) :
    Calls Tryz.prog 49 #[.int .u8 p, .int .i64 s, .int .u8 typ, .slice A zs.length c, .agg (pAgg q A2 n2 c2 A4 c4), .map none] w fun e w' => ∃ v, e = .returned (.tuple #[v, .nilIface]) ∧ Out w w' v (frame p 13 s (bbytes typ xs q)) := by
  have hN2 : zs.length ≤ 10 := by rw [hQ.1]; exact hN
  have HR := Lib.hid hR
  have HQ := Lib.hid hQ
  have Hok := Lib.hid hok
  clear hR hQ hok
  go_enter Tryz.func49, Tryz.ntmps49
  go_upto_region 2 with (fail)
  have HBe0 := Lib.hid (below_alloc (below_alloc (Below.refl w.heap.size w) (Obj.cells (pAgg q A2 n2 c2 A4 c4) 108)) (Obj.cells #[.int .u8 typ, .slice none 0 0, .int .u16 q.cons, .int .u16 q.serial, .bool q.hasT, .int .i64 q.t, .map none] 198))
  have HB0 := Lib.hid (heap_alloc_new2 w (Obj.cells (pAgg q A2 n2 c2 A4 c4) 108) (Obj.cells #[.int .u8 typ, .slice none 0 0, .int .u16 q.cons, .int .u16 q.serial, .bool q.hasT, .int .i64 q.t, .map none] 198))
  generalize (w.alloc _).alloc _ = w0 at *
  have Hsz : Hid (w.heap.size ≤ w.heap.size + 1) := Lib.hid (by omega)
  generalize w.heap.size + 1 = B at *
  go_upto_region 3 with (fail)
  go_loopw [31] (fun v31 W => ∃ i : Nat, v31 = .int .i64 i ∧ i ≤ zs.length ∧ Hid (∃ (ss : List RS) (v1 : Value), ss.length = i ∧ Below w.heap.size w W ∧ W.heap[B]? = some (.cells #[.int .u8 typ, v1, .int .u16 q.cons, .int .u16 q.serial, .bool q.hasT, .int .i64 q.t, .map none] 198 (0, 0)) ∧ W.ownsRow w.heap.size 203 3 v1 i (ss.flatMap RS.q) ∧ RSOwn W w.heap.size zs ss)) (fun v31 _ => zs.length - (intOf v31).toNat)
  case atStart => exact ⟨0, rfl, by omega, Lib.hid ⟨[], .slice none 0 0, rfl, HBe0.out, HB0.out, own_nil _ _ _ _, fun i r hr => by simp at hr⟩⟩
  case round =>
    obtain ⟨i, rfl, hi, HI⟩ := hrel
    clear HB0 HBe0
    obtain ⟨ss, v1, hss, hbe, hblk, hrow, hown⟩ := HI.out
    clear HI
    have Hss := Lib.hid hss
    have HBe := Lib.hid hbe
    have HBB1 := Lib.hid hblk
    have HRow1 := Lib.hid hrow
    have HSS1 := Lib.hid hown
    clear hss hbe hblk hrow hown
    generalize hcs : ss.flatMap RS.q = cs at *
    have Hcs := Lib.hid hcs
    clear hcs
    by_cases hlt : i < zs.length
    · have hx : zs[i]? = some zs[i] := List.getElem?_eq_getElem hlt
      obtain ⟨gq, rfl, hrowz⟩ := HR.out (by omega)
      obtain ⟨kid, kst, kvs, hzr, hz20⟩ := hrowz i _ hx
      generalize zs[i] = z at *
      have Hx := Lib.hid hx
      clear hrowz hx
      obtain ⟨zAi, zmi, zci, zst, zAv, zcv, zrs⟩ := z
      simp only at kid kst kvs hzr hz20
      have kid' := (HBe.out.cell (World.block_lt_of_cell? w _ kid)).trans kid
      have kst' := (HBe.out.cell (World.block_lt_of_cell? w _ kst)).trans kst
      have kvs' := (HBe.out.cell (World.block_lt_of_cell? w _ kvs)).trans kvs
      have HK := Lib.hid (heap_alloc_new wr (Obj.cells #[.slice zAi zmi zci, .string zst, .slice zAv zrs.length zcv] 200))
      have HBB := Lib.hid (blk_alloc HBB1.out (Obj.cells #[.slice zAi zmi zci, .string zst, .slice zAv zrs.length zcv] 200))
      have HRow := Lib.hid (HRow1.out.alloc (Obj.cells #[.slice zAi zmi zci, .string zst, .slice zAv zrs.length zcv] 200))
      have HSS := Lib.hid (HSS1.out.map (fun v n xs h => h.alloc (Obj.cells #[.slice zAi zmi zci, .string zst, .slice zAv zrs.length zcv] 200)))
      have HBe1 := Lib.hid (HBe.out.alloc HBe.out.size (Obj.cells #[.slice zAi zmi zci, .string zst, .slice zAv zrs.length zcv] 200))
      have HZ := Lib.hid (hzr.below_ HBe1.out.drew)
      clear HBB1 HRow1 HSS1 HBe kid kst kvs hzr
      have HBe := HBe1
      clear HBe1
      go_upto_region 5 with (fail)
      generalize wr.heap.size = K at *
      generalize wr.alloc _ = wq at *
      clear kid' kst' kvs'
      refine start_ (n := 18) (S := fun w' => w'.cell? ⟨B, 1, none⟩ = some v1 ∧ w'.cell? ⟨K, 0, none⟩ = some (.slice zAi zmi zci) ∧ w'.cell? ⟨K, 1, none⟩ = some (.string zst) ∧ w'.cell? ⟨K, 2, none⟩ = some (.slice zAv zrs.length zcv)) (ds := [14, 17]) #[false, false, false, false, false, false, false, false, false, false, false, false, false, false, false, false, false, false] (by kernel_rfl) rfl rfl ⟨((cell_of_row _ _ 1 _ _ _ (blk_drew HBB.out)).trans rfl), ((cell_of_row _ _ 0 _ _ _ (blk_drew HK.out)).trans rfl), ((cell_of_row _ _ 1 _ _ _ (blk_drew HK.out)).trans rfl), ((cell_of_row _ _ 2 _ _ _ (blk_drew HK.out)).trans rfl)⟩ (fun hHeld => ?_)
      refine e_o 0 ?_
      refine e_o 1 ?_
      refine e_o 2 ?_
      refine e_o 3 ?_
      refine e_o 5 ?_
      refine e_o 7 ?_
      refine e_o 9 ?_
      refine e_t 4 hHeld ?_
      refine e_t 6 hHeld ?_
      refine e_t 8 hHeld ?_
      refine e_t 10 hHeld ?_
      refine one_ (i := 11) (N := some 46) #[true, true, true, true, true, true, true, true, true, true, true, true, false, false, false, false, false, false] rfl rfl (by kernel_rfl) (by decide) (fun K hK => ?_)
      refine goes_ Tryz.func84 (by kernel_rfl) rfl #[.slice zAv zrs.length zcv] (by rfl) rfl rfl (by simp only [List.map_toArray, List.map_cons, List.map_nil]; rfl) ?_
      with_reducible refine (zzValues_any _ zAv zcv zrs hz20 HZ.out).mono ?_
      rintro e w3 ⟨vv, rfl, hb3, hown3⟩
      refine ⟨_, rfl, ?_⟩
      obtain ⟨Avv, mvv, cvv, rfl⟩ := own_form hown3
      have HK3 := Lib.hid (blk_below (blk_drew HK.out) hb3)
      have HB3 := Lib.hid (blk_below (blk_drew HBB.out) hb3)
      have HR3 := Lib.hid (pw_own_below (HRow.out.drew) hb3)
      have HS3 := Lib.hid (HSS.out.map (fun v n xs h => pw_own_below (h.drew) hb3))
      have HBe3 := Lib.hid (below_then HBe.out.drew HBe.out.size hb3)
      have HO3 := Lib.hid hown3
      clear hown3 hb3
      refine hK.out _ _ ⟨((cell_of_row _ _ 1 _ _ _ HB3.out).trans rfl), ((cell_of_row _ _ 0 _ _ _ HK3.out).trans rfl), ((cell_of_row _ _ 1 _ _ _ HK3.out).trans rfl), ((cell_of_row _ _ 2 _ _ _ HK3.out).trans rfl)⟩ (fun hHeld => ?_)
      clear hK K
      refine norm_ (a' := ?_) ?_ ?_
      rotate_left
      · show Act.put _ (some 46) _ = _
        simp only [Act.put, List.setIfInBounds_toArray, List.set_cons_zero, List.set_cons_succ, i64_w, i32_w]
        rfl
      refine e_o 12 ?_
      refine one_ (i := 13) (N := some 48) #[true, true, true, true, true, true, true, true, true, true, true, true, true, true, false, false, false, false] rfl rfl (by kernel_rfl) (by decide) (fun K hK => ?_)
      refine value_ (w1 := ?_) (v := ?_) (by rfl) rfl ?_ ?_
      rotate_left 2
      · go_simp
        constructor
        · rfl
        · rfl
      refine hK.out _ _ ⟨((cell_of_row _ _ 1 _ _ _ (blk_alloc HB3.out _)).trans rfl), ((cell_of_row _ _ 0 _ _ _ (blk_alloc HK3.out _)).trans rfl), ((cell_of_row _ _ 1 _ _ _ (blk_alloc HK3.out _)).trans rfl), ((cell_of_row _ _ 2 _ _ _ (blk_alloc HK3.out _)).trans rfl)⟩ (fun hHeld => ?_)
      clear hK K
      refine norm_ (a' := ?_) ?_ ?_
      rotate_left
      · show Act.put _ (some 48) _ = _
        simp only [Act.put, List.setIfInBounds_toArray, List.set_cons_zero, List.set_cons_succ, i64_w, i32_w]
        rfl
      refine last_ (i := 14) (N := some 49) #[true, true, true, true, true, true, true, true, true, true, true, true, true, true, true, false, false, false] rfl rfl (by kernel_rfl) (by decide) (fun K hK => ?_)
      refine app_step (E := _) rfl (.tmp 39) (.tmp 48) 196 196 rfl v1 _ rfl rfl (ap_one 196 _ 203 3 64 _ Tryz.underlying196 info203 rfl (by omega) (by omega) v1 i cs w3.heap.size 1 (HR3.out.alloc _) (heap_alloc_new _ _) rfl (by simp [Value.oneCell']) (by omega) (HBe3.out.alloc HBe3.out.size _).size) ?_
      rintro v2 w4 ⟨hown, hgrow⟩
      have hbk := Lib.hid (blk_grown (blk_alloc HB3.out _) hgrow (own_ne HR3.out HB3.out (by decide)))
      have hc4 : w4.cell? ⟨B, 1, none⟩ = some v1 := (cell_of_row _ _ 1 _ _ _ hbk.out).trans rfl
      have hf4 : w4.frozen? ⟨B, 1, none⟩ = false := blk_froz hbk.out
      obtain ⟨A4v, m4, c4v, rfl⟩ := own_form hown
      refine hK.out _ _ ?_
      clear hK K
      refine norm_ (a' := ?_) ?_ ?_
      rotate_left
      · show Act.put _ (some 49) _ = _
        simp only [Act.put, List.setIfInBounds_toArray, List.set_cons_zero, List.set_cons_succ, i64_w, i32_w]
        rfl
      refine e_o 15 ?_
      refine e_o 16 ?_
      refine last_ (i := 17) (N := none) #[true, true, true, true, true, true, true, true, true, true, true, true, true, true, true, true, true, true] rfl rfl (by kernel_rfl) (by decide) (fun K hK => ?_)
      refine skip_ (w1 := ?_) (by rfl) rfl ?_ ?_
      rotate_left
      · go_simp
        rfl
      refine hK.out _ _ ?_
      clear hK K
      refine done_ (by kernel_rfl) ?_
      have hRw := Lib.hid (own_setCell hown (own_ne hown hbk.out (by decide)) (p := ⟨B, 1, none⟩) (.slice A4v m4 c4v))
      have hBw : Hid ((w4.setCell ⟨B, 1, none⟩ (.slice A4v m4 c4v)).heap[B]? = some (.cells #[.int .u8 typ, .slice A4v m4 c4v, .int .u16 q.cons, .int .u16 q.serial, .bool q.hasT, .int .i64 q.t, .map none] 198 (0, 0))) := Lib.hid ((blk_set hbk.out 1 (.slice A4v m4 c4v)).trans rfl)
      have hBe4 := Lib.hid ((pw_below_grown (HBe3.out.alloc HBe3.out.size _) _ (HBe3.out.alloc HBe3.out.size _).size hgrow (fun k hk => own_base HR3.out k hk)).setCell (p := ⟨B, 1, none⟩) Hsz.out (.slice A4v m4 c4v))
      have hM : Hid (∀ v n xs, w3.ownsRow w.heap.size 280 3 v n xs → (w4.setCell ⟨B, 1, none⟩ (.slice A4v m4 c4v)).ownsRow w.heap.size 280 3 v n xs) := Lib.hid (fun v n xs h => by
        have h1 := own_other (h.alloc _) hgrow (own_type_ne h HR3.out (by decide))
        exact own_setCell h1 (own_ne h1 hbk.out (by decide)) _)
      have HO4 := Lib.hid (hM.out _ _ _ (own_weaken HO3.out HBe.out.drew.size))
      have HS4 := Lib.hid (HS3.out.map hM.out)
      clear hown hgrow hbk hc4 hf4 hM HO3 HS3 HBe3 HR3 HB3 HK3 HZ HSS HRow HBB HK HBe
      generalize w4.setCell ⟨B, 1, none⟩ (.slice A4v m4 c4v) = w5 at *
      go_wp2
      go_roundw
      case rel =>
        refine ⟨i + 1, by go_num, by omega, Lib.hid ⟨ss ++ [⟨zAi, zmi, zci, zst, Avv, mvv, cvv⟩], _, by simp [Hss.out], hBe4.out, hBw.out, ?_, ?_⟩⟩
        · rw [List.flatMap_append, Hcs.out]
          exact hRw.out
        · intro j r hr
          by_cases hj : j < ss.length
          · rw [List.getElem?_append_left hj] at hr
            exact HS4.out j r hr
          · rw [List.getElem?_append_right (by omega)] at hr
            have hj0 : j - ss.length = 0 := by
              rcases Nat.eq_zero_or_pos (j - ss.length) with h | h
              · exact h
              · rw [List.getElem?_eq_none (by simp; omega)] at hr; cases hr
            rw [hj0] at hr
            obtain rfl : (⟨zAi, zmi, zci, zst, Avv, mvv, cvv⟩ : RS) = r := by simpa using hr
            have hji : j = i := by have := Hss.out; omega
            subst hji
            have hm : mvv = zrs.length := by
              obtain ⟨A9, c9, h9⟩ := own_slice HO4.out
              cases h9
              rfl
            exact ⟨_, Hx.out, rfl, rfl, rfl, hm, HO4.out⟩
      case measure => simp [intOf]; omega
    · have hii : i = zs.length := by omega
      obtain ⟨A', c', hv⟩ := own_slice HRow1.out
      subst hv
      have hR2 : SRow wr A' xs := by
        have h1 := HRow1.out
        rw [← Hcs.out] at h1
        exact srow_of (Hss.out.trans hii) (by rw [Hss.out]; exact h1) HSS1.out HQ.out HBe.out
      have hC2 : BCells wr B typ xs.length q A' c' := by
        rw [← HQ.out.1, ← hii]
        have h1 := fun k => cell_of_row wr B k _ _ _ HBB1.out
        exact ⟨(h1 0).trans rfl, (h1 1).trans rfl, (h1 2).trans rfl, (h1 3).trans rfl, (h1 4).trans rfl, (h1 5).trans rfl, (h1 6).trans rfl⟩
      have HR2 := Lib.hid hR2
      have HC2 := Lib.hid hC2
      clear hR2 hC2 HBB1 HRow1 HSS1
      go_wp2_with fail
      refine (zzBuild_any _ p s _ 330 B (frame p 13 s (bbytes typ xs q)) hp (m330 _) g330 (fun F w1 hF => b_batch _ F B p s typ xs q A' c' w1 hp hF hN Hok.out HR2.out HC2.out)).mono ?_
      rintro e w2 ⟨v, rfl, hO⟩
      go_wp2_with fail
      go_ret2
      exact ⟨v, rfl, hO.lower HBe.out⟩
end Go.Proofs.YtammjbmfiakbnaaGreatDoor
