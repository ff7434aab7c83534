/-
  The reference's writer: a value that is bound. The reference's writer: the parameters of a query.
-/
import Derived.Test.YtammjbmfiakbnaaGreatDoorB
import Derived.Test.YtammjbmfiakbnaaGreatDoorU
namespace Go.Proofs.YtammjbmfiakbnaaGreatDoor
set_option maxHeartbeats 2000000
set_option maxRecDepth 100000
set_option linter.unusedSimpArgs false
set_option linter.unusedVariables false
open Go.RowKit Go.Proofs.YtammjbmfiakbnaaGreatDoorW.PrintWords Go.Proofs.YtammjbmfiakbnaaGreatDoorW.PrintLast Go.Proofs.YtammjbmfiakbnaaGreatDoorW.PrintMore
open Go.Proofs.YtammjbmfiakbnaaGreatDoor.PFnRequest
/-- A value as the reference has it. -/
def c87 (x : S93) : S87 := ⟨x.f0, x.f1, x.f2, x.f3⟩
/-- Its bytes. -/
def pbytes (x : S93) : List Int := if x.f1 = true then be 4 (-2) else if x.f2 = true then be 4 (-1) else be 4 x.f3.length ++ x.f3
theorem pbytes_le (x : S93) (h : x.f3.length ≤ 100) : (pbytes x).length ≤ 104 := by
  unfold pbytes
  split
  · simp [be_length]
  · split
    · simp [be_length]
    · simp only [List.length_append, be_length]; omega
theorem vbytes_qv (nm : Bool) (x : S93) : vbytes nm (qv x) = (if nm = true then be 2 x.f0.size ++ bytesOf x.f0 else []) ++ pbytes x := by
  unfold vbytes qv pbytes
  cases h1 : x.f1 <;> cases h2 : x.f2 <;> simp
theorem Wr.kw {wB w : World} {G : Nat} {bs : List Int} (h : Wr wB w G bs) (o : Obj) : Wr wB (w.alloc o) G bs ∧ Kw w (w.alloc o) := ⟨h.alloc o, Kw.of_below (below_alloc (Below.refl _ _) o)⟩
set_option maxHeartbeats 1000000 in
theorem param_u (wB : World) (G : Nat) (bs : List Int) (nm : ByteArray) (nu : Bool) (d : List Int) (A : Option Addr) (c : Nat) (w : World) (hd : d.length ≤ 100) (hl : bs.length ≤ 900000000) (hW : Wr wB w G bs) (hr : ReadsInt wB .u8 A d.length d) :
    Calls Tryz.prog 29 #[.pointer (some ⟨G, 0, none⟩), .agg #[.string nm, .bool true, .bool nu, .slice A d.length c]] w fun e w' => e = .returned (.tuple #[]) ∧ Wr wB w' G (bs ++ (be 4 (-2))) ∧ Kw w w' := by
  obtain ⟨hW0, hK0⟩ := hW.kw (.cells #[.string nm, .bool true, .bool nu, .slice A d.length c] 87)
  have HR := Lib.hid hr
  have HK0 := Lib.hid hK0
  clear hr hW hK0
  go_enter Tryz.func29, Tryz.ntmps29
  go_wp2_with fail
  refine (put_any wB G bs _ _ 4 _ rfl (by omega) (by omega) hW0).mono ?_
  rintro e w1 ⟨rfl, hW1, hK1⟩
  go_wp2_with fail
  go_end0
  exact ⟨rfl, hW1, HK0.out.trans hK1⟩
set_option maxHeartbeats 1000000 in
theorem param_n (wB : World) (G : Nat) (bs : List Int) (nm : ByteArray) (nu : Bool) (d : List Int) (A : Option Addr) (c : Nat) (w : World) (hd : d.length ≤ 100) (hl : bs.length ≤ 900000000) (hW : Wr wB w G bs) (hr : ReadsInt wB .u8 A d.length d) :
    Calls Tryz.prog 29 #[.pointer (some ⟨G, 0, none⟩), .agg #[.string nm, .bool false, .bool true, .slice A d.length c]] w fun e w' => e = .returned (.tuple #[]) ∧ Wr wB w' G (bs ++ (be 4 (-1))) ∧ Kw w w' := by
  obtain ⟨hW0, hK0⟩ := hW.kw (.cells #[.string nm, .bool false, .bool true, .slice A d.length c] 87)
  have HR := Lib.hid hr
  have HK0 := Lib.hid hK0
  clear hr hW hK0
  go_enter Tryz.func29, Tryz.ntmps29
  go_wp2_with fail
  refine (put_any wB G bs _ _ 4 _ rfl (by omega) (by omega) hW0).mono ?_
  rintro e w1 ⟨rfl, hW1, hK1⟩
  go_wp2_with fail
  go_end0
  exact ⟨rfl, hW1, HK0.out.trans hK1⟩
set_option maxHeartbeats 1000000 in
theorem param_d (wB : World) (G : Nat) (bs : List Int) (nm : ByteArray) (nu : Bool) (d : List Int) (A : Option Addr) (c : Nat) (w : World) (hd : d.length ≤ 100) (hl : bs.length ≤ 900000000) (hW : Wr wB w G bs) (hr : ReadsInt wB .u8 A d.length d) :
    Calls Tryz.prog 29 #[.pointer (some ⟨G, 0, none⟩), .agg #[.string nm, .bool false, .bool false, .slice A d.length c]] w fun e w' => e = .returned (.tuple #[]) ∧ Wr wB w' G (bs ++ (be 4 d.length ++ d)) ∧ Kw w w' := by
  obtain ⟨hW0, hK0⟩ := hW.kw (.cells #[.string nm, .bool false, .bool false, .slice A d.length c] 87)
  have HR := Lib.hid hr
  have HK0 := Lib.hid hK0
  clear hr hW hK0
  go_enter Tryz.func29, Tryz.ntmps29
  go_wp2_with fail
  refine (block_any wB G bs d A _ c _ rfl (by omega) hW0 HR.out).mono ?_
  rintro e w1 ⟨rfl, hW1, hK1⟩
  go_wp2_with fail
  go_end0
  exact ⟨rfl, hW1, HK0.out.trans hK1⟩
theorem param_any (wB : World) (G : Nat) (bs : List Int) (x : S93) (A : Option Addr) (c : Nat) (w : World) (hd : x.f3.length ≤ 100) (hl : bs.length ≤ 900000000) (hW : Wr wB w G bs) (hr : ReadsInt wB .u8 A x.f3.length x.f3) :
    Calls Tryz.prog 29 #[.pointer (some ⟨G, 0, none⟩), .agg #[.string x.f0, .bool x.f1, .bool x.f2, .slice A x.f3.length c]] w fun e w' => e = .returned (.tuple #[]) ∧ Wr wB w' G (bs ++ pbytes x) ∧ Kw w w' := by
  obtain ⟨nm, un, nu, d⟩ := x
  cases un with
  | true => exact param_u wB G bs nm nu d A c w hd hl hW hr
  | false =>
    cases nu with
    | true => exact param_n wB G bs nm true d A c w hd hl hW hr
    | false => exact param_d wB G bs nm false d A c w hd hl hW hr
abbrev IQ.sc (q : IQ) (A : Option Addr) (c : Nat) : Array Value := #[.int .i64 q.cons, .bool q.skip, .slice A q.vals.length c, .int .i64 q.page, .slice q.A4 q.paging.length q.c4, .int .i64 q.serial, .slice q.A6 q.ts.length q.c6]
/-- A query's parameters as the reference has them. -/
def IQ.SIn (w : World) (q : IQ) (A : Option Addr) : Prop := Kd.C k87 w A q.vals.length (q.vals.map c87) ∧ (Kd.int .u8).C w q.A4 q.paging.length q.paging ∧ (Kd.int .i64).C w q.A6 q.ts.length q.ts
noncomputable def c27 (k : Nat) : Code := nth k (Tryz.f27.body.getD .skip)
noncomputable def t27 (k : Nat) : Code := tl k (Tryz.f27.body.getD .skip)
/-- The slots that are known. -/
def I27 (G K : Nat) (v4 v5 : Value) (a : Act) : Prop := a.defers = [] ∧ a.tmps.size = 123 ∧ a.tmps.getD 0 undef = .pointer (some ⟨G, 0, none⟩) ∧ a.tmps.getD 3 undef = .pointer (some ⟨K, 0, none⟩) ∧ a.tmps.getD 4 undef = v4 ∧ a.tmps.getD 5 undef = v5
theorem I27.open_ {G K : Nat} {v4 v5 : Value} {a : Act} (h : I27 G K v4 v5 a) : ∃ g : Nat → Value, a = ⟨#[.pointer (some ⟨G, 0, none⟩), g 1, g 2, .pointer (some ⟨K, 0, none⟩), v4, v5, g 6, g 7, g 8, g 9, g 10, g 11, g 12, g 13, g 14, g 15, g 16, g 17, g 18, g 19, g 20, g 21, g 22, g 23, g 24, g 25, g 26, g 27, g 28, g 29, g 30, g 31, g 32, g 33, g 34, g 35, g 36, g 37, g 38, g 39, g 40, g 41, g 42, g 43, g 44, g 45, g 46, g 47, g 48, g 49, g 50, g 51, g 52, g 53, g 54, g 55, g 56, g 57, g 58, g 59, g 60, g 61, g 62, g 63, g 64, g 65, g 66, g 67, g 68, g 69, g 70, g 71, g 72, g 73, g 74, g 75, g 76, g 77, g 78, g 79, g 80, g 81, g 82, g 83, g 84, g 85, g 86, g 87, g 88, g 89, g 90, g 91, g 92, g 93, g 94, g 95, g 96, g 97, g 98, g 99, g 100, g 101, g 102, g 103, g 104, g 105, g 106, g 107, g 108, g 109, g 110, g 111, g 112, g 113, g 114, g 115, g 116, g 117, g 118, g 119, g 120, g 121, g 122], []⟩ := by
  obtain ⟨hd, hs, h0, h3, h4, h5⟩ := h
  refine ⟨fun t => a.tmps.getD t undef, ?_⟩
  have e := frame_open 123 a hd hs
  generalize hg : (fun t => a.tmps.getD t undef) = g at e
  have g0 : g 0 = .pointer (some ⟨G, 0, none⟩) := by rw [← hg]; exact h0
  have g3 : g 3 = .pointer (some ⟨K, 0, none⟩) := by rw [← hg]; exact h3
  have g4 : g 4 = v4 := by rw [← hg]; exact h4
  have g5 : g 5 = v5 := by rw [← hg]; exact h5
  have e2 : ((List.range 123).map g).toArray = #[g 0, g 1, g 2, g 3, g 4, g 5, g 6, g 7, g 8, g 9, g 10, g 11, g 12, g 13, g 14, g 15, g 16, g 17, g 18, g 19, g 20, g 21, g 22, g 23, g 24, g 25, g 26, g 27, g 28, g 29, g 30, g 31, g 32, g 33, g 34, g 35, g 36, g 37, g 38, g 39, g 40, g 41, g 42, g 43, g 44, g 45, g 46, g 47, g 48, g 49, g 50, g 51, g 52, g 53, g 54, g 55, g 56, g 57, g 58, g 59, g 60, g 61, g 62, g 63, g 64, g 65, g 66, g 67, g 68, g 69, g 70, g 71, g 72, g 73, g 74, g 75, g 76, g 77, g 78, g 79, g 80, g 81, g 82, g 83, g 84, g 85, g 86, g 87, g 88, g 89, g 90, g 91, g 92, g 93, g 94, g 95, g 96, g 97, g 98, g 99, g 100, g 101, g 102, g 103, g 104, g 105, g 106, g 107, g 108, g 109, g 110, g 111, g 112, g 113, g 114, g 115, g 116, g 117, g 118, g 119, g 120, g 121, g 122] := rfl
  rw [g0, g3, g4, g5] at e2
  rw [e, e2]
/-- The memory between two statements. -/
def St (w0 wB : World) (G K : Nat) (q : IQ) (A : Option Addr) (c : Nat) (bs : List Int) (W : World) : Prop := Wr wB W G bs ∧ W.heap[K]? = some (.cells (q.sc A c) 36 (0, 0)) ∧ Kw w0 W
theorem St.step {w0 wB W W1 : World} {G K c : Nat} {q : IQ} {A : Option Addr} {bs bs' : List Int} (h : St w0 wB G K q A c bs W) (h1 : Wr wB W1 G bs') (h2 : Kw W W1) : St w0 wB G K q A c bs' W1 :=
  ⟨h1, h2 K _ 36 (by decide) (by decide) h.2.1, h.2.2.trans h2⟩
theorem St.below_ {w0 wB W W1 : World} {G K c : Nat} {q : IQ} {A : Option Addr} {bs : List Int} (h : St w0 wB G K q A c bs W) (hb : Below W.heap.size W W1) : St w0 wB G K q A c bs W1 := h.step (h.1.below_ hb) (Kw.of_below hb)
theorem St.at_ {w0 wB W : World} {G K c : Nat} {q : IQ} {A : Option Addr} {bs : List Int} (h : St w0 wB G K q A c bs W) (i : Nat) : W.cell? ⟨K, i, none⟩ = (q.sc A c)[i]? := cell_of_row _ _ i _ _ _ h.2.1
/-- The flags: the sum of the bits before the k-th. -/
def flg (b : Nat → Bool) : Nat → Int
  | 0 => 0
  | k + 1 => flg b k + bit (b k) (2 ^ k)
theorem flg_range (b : Nat → Bool) : ∀ k, 0 ≤ flg b k ∧ flg b k < 2 ^ k
  | 0 => by simp [flg]
  | k + 1 => by
    have h := flg_range b k
    have e : (2 : Int) ^ (k + 1) = 2 ^ k + 2 ^ k := by rw [Int.pow_succ]; omega
    rcases bit_01 (b k) (2 ^ k) with h1 | h1 <;> simp only [flg, h1] <;> omega
theorem bits_or64 (x : Int) (k : Nat) (hk : k < 7) (h0 : 0 ≤ x) (h1 : x < 2 ^ k) : bits BinOp.or IntKind.i64 x (2 ^ k) = x + 2 ^ k := by
  obtain ⟨n, rfl⟩ := Int.eq_ofNat_of_zero_le h0
  have hn : n < 2 ^ k := by
    have : ((n : Nat) : Int) < ((2 ^ k : Nat) : Int) := by simpa using h1
    omega
  have key : ∀ k : Fin 7, ∀ n : Fin 64, (n : Nat) < 2 ^ (k : Nat) → bits BinOp.or IntKind.i64 ((n : Nat) : Int) (2 ^ (k : Nat)) = ((n : Nat) : Int) + 2 ^ (k : Nat) := by decide
  have h64 : (2 : Nat) ^ k ≤ 64 := by
    have : k = 0 ∨ k = 1 ∨ k = 2 ∨ k = 3 ∨ k = 4 ∨ k = 5 ∨ k = 6 := by omega
    rcases this with rfl | rfl | rfl | rfl | rfl | rfl | rfl <;> decide
  exact key ⟨k, hk⟩ ⟨n, by omega⟩ hn
theorem s_1 {Q : Exit → Act → World → Prop} {w0 wB w : World} {G K c : Nat} {q : IQ} {A : Option Addr} {bs : List Int} {a : Act} {v4 v5 : Value} (hS : St w0 wB G K q A c bs w) (hl : bs.length ≤ 900000000) (hI : I27 G K v4 v5 a)
    (h : ∀ a' w', I27 G K v4 v5 a' → St w0 wB G K q A c (bs ++ be 2 q.cons) w' → Q .normal a' w') : Code.wp Tryz.prog (c27 1) Q a w := by
  have k0 := (hS.at_ 0).trans rfl
  obtain ⟨g, rfl⟩ := hI.open_
  clear hI
  conv => arg 2; whnf
  go_wp2_with (go_at_call 24; refine (put_any wB G bs _ _ 2 _ rfl (by omega) (by omega) hS.1).mono ?_; rintro e w1 ⟨rfl, hW1, hK1⟩)
  exact h _ _ ⟨rfl, rfl, rfl, rfl, rfl, rfl⟩ (hS.step hW1 hK1)
theorem s_2n {KK : Act → World → Prop} {R : Ending → World → Prop} {w : World} {G K c : Nat} {A : Option Addr} {a : Act} {v4 v5 : Value} (k2 : w.drew.cell? ⟨K, 2, none⟩ = some (.slice A 0 c)) (hI : I27 G K v4 v5 a)
    (h : ∀ a', I27 G K (.int .i64 0) (.bool false) a' → KK a' w.drew) : Code.wp Tryz.prog (c27 2) (Exit.then KK (bodyPost Tryz.prog Tryz.f27 R)) a w := by
  have HH := Lib.hid h
  clear h
  obtain ⟨g, rfl⟩ := hI.open_
  clear hI
  conv => arg 2; whnf
  refine start_ (n := 14) (S := fun w' => w'.cell? ⟨K, 2, none⟩ = some (.slice A 0 c)) (ds := []) #[false, false, false, false, false, false, false, false, false, false, false, false, false, false] (by kernel_rfl) rfl rfl (k2) (fun hHeld => ?_)
  refine e_o 0 ?_
  refine e_t 1 hHeld ?_
  refine e_o 2 ?_
  refine e_o 3 ?_
  refine e_o 4 ?_
  refine e_f 5 ?_
  refine e_f 6 ?_
  refine e_f 7 ?_
  refine e_f 8 ?_
  refine e_f 9 ?_
  refine e_f 10 ?_
  refine e_o 11 ?_
  refine e_o 12 ?_
  refine e_o 13 ?_
  refine done_ (by kernel_rfl) ?_
  exact HH.out _ ⟨rfl, rfl, rfl, rfl, rfl, rfl⟩
theorem s_2c {KK : Act → World → Prop} {R : Ending → World → Prop} {w : World} {G K n c : Nat} {ad : Addr} {nm : ByteArray} {a : Act} {v4 v5 : Value} (k2 : w.drew.cell? ⟨K, 2, none⟩ = some (.slice (some ad) n c)) (kn : w.drew.cell? ad = some (.string nm)) (hn : 0 < n) (hI : I27 G K v4 v5 a)
    (h : ∀ a', I27 G K (.int .i64 0) (.bool (!nm.toList.isEmpty)) a' → KK a' w.drew) : Code.wp Tryz.prog (c27 2) (Exit.then KK (bodyPost Tryz.prog Tryz.f27 R)) a w := by
  have HH := Lib.hid h
  clear h
  obtain ⟨g, rfl⟩ := hI.open_
  clear hI
  conv => arg 2; whnf
  refine start_ (n := 14) (S := fun w' => w'.cell? ⟨K, 2, none⟩ = some (.slice (some ad) n c) ∧ w'.cell? ad = some (.string nm)) (ds := []) #[false, false, false, false, false, false, false, false, false, false, false, false, false, false] (by kernel_rfl) rfl rfl ⟨k2, kn⟩ (fun hHeld => ?_)
  refine e_o 0 ?_
  refine e_t 1 hHeld ?_
  refine e_o 2 ?_
  refine e_o 3 ?_
  refine e_o 4 ?_
  refine e_o 5 ?_
  refine e_o 12 ?_
  refine e_t 6 hHeld ?_
  refine e_o 7 ?_
  refine e_o 8 ?_
  refine e_t 9 hHeld ?_
  refine e_o 10 ?_
  refine e_o 11 ?_
  refine e_o 13 ?_
  refine done_ (by kernel_rfl) ?_
  exact HH.out _ ⟨rfl, rfl, rfl, rfl, rfl, rfl⟩
theorem s_2 {KK : Act → World → Prop} {R : Ending → World → Prop} {w0 wB w : World} {G K c : Nat} {q : IQ} {A : Option Addr} {bs : List Int} {a : Act} {v4 v5 : Value} (hS : St w0 wB G K q A c bs w) (hV : Kd.C k87 wB A q.vals.length (q.vals.map c87)) (hI : I27 G K v4 v5 a)
    (h : ∀ a' w', I27 G K (.int .i64 0) (.bool (named (q.vals.map qv))) a' → St w0 wB G K q A c bs w' → KK a' w') : Code.wp Tryz.prog (c27 2) (Exit.then KK (bodyPost Tryz.prog Tryz.f27 R)) a w := by
  have k2 : w.drew.cell? ⟨K, 2, none⟩ = some (.slice A q.vals.length c) := (hS.at_ 2).trans rfl
  have hS' := hS.below_ (Below.refl _ _).drew
  rcases Nat.eq_zero_or_pos q.vals.length with h0 | h0
  · have hn : named (q.vals.map qv) = false := by rw [List.eq_nil_of_length_eq_zero h0]; rfl
    rw [hn] at h
    rw [h0] at k2
    exact s_2n k2 hI fun a' hI' => h a' _ hI' hS'
  · obtain ⟨ad, A3, c3, rfl, hx0, _⟩ := at_T87 hV 0 (by omega) (by omega)
    have hx0' := pw_cell_below hS'.1.1 hx0
    have hn : named (q.vals.map qv) = !(rd_T87 (q.vals.map c87) 0).f0.toList.isEmpty := by
      cases hv : q.vals with
      | nil => rw [hv] at h0; exact absurd h0 (Nat.lt_irrefl 0)
      | cons x xs => rfl
    rw [hn] at h
    have had : ad.add (Int.toNat 0 * 4) = ad := by obtain ⟨b, o, x⟩ := ad; rfl
    rw [had] at hx0'
    exact s_2c k2 hx0' h0 hI fun a' hI' => h a' _ hI' hS'
/-- The flags' bits. -/
def IQ.b (q : IQ) : Nat → Bool
  | 0 => decide (0 < q.vals.length)
  | 1 => q.skip
  | 2 => decide (0 < q.page)
  | 3 => decide (0 < q.paging.length)
  | 4 => decide (0 < q.serial)
  | 5 => decide (0 < q.ts.length)
  | _ => named (q.vals.map qv)
theorem s_3 {Q : Exit → Act → World → Prop} {w0 wB w : World} {G K c : Nat} {q : IQ} {A : Option Addr} {bs : List Int} {a : Act} (hS : St w0 wB G K q A c bs w) (hI : I27 G K (.int .i64 0) (.bool (named (q.vals.map qv))) a)
    (h : ∀ a' w', I27 G K (.int .i64 (flg q.b 7)) (.bool (named (q.vals.map qv))) a' → St w0 wB G K q A c bs w' → Q .normal a' w') : Code.wp Tryz.prog (c27 3) Q a w := by
  have k0 := (hS.at_ 0).trans rfl
  have k1 := (hS.at_ 1).trans rfl
  have k2 := (hS.at_ 2).trans rfl
  have k3 := (hS.at_ 3).trans rfl
  have k4 := (hS.at_ 4).trans rfl
  have k5 := (hS.at_ 5).trans rfl
  have k6 := (hS.at_ 6).trans rfl
  have HS := Lib.hid (hS.below_ (below_alloc (Below.refl w.heap.size w) (.cells #[.bool (decide (0 < q.vals.length)), .bool q.skip, .bool (decide (0 < q.page)), .bool (decide (0 < q.paging.length)), .bool (decide (0 < q.serial)), .bool (decide (0 < q.ts.length)), .bool (named (q.vals.map qv))] 4)))
  have HH := Lib.hid h
  have HB := Lib.hid (heap_alloc_new w (.cells #[.bool (decide (0 < q.vals.length)), .bool q.skip, .bool (decide (0 < q.page)), .bool (decide (0 < q.paging.length)), .bool (decide (0 < q.serial)), .bool (decide (0 < q.ts.length)), .bool (named (q.vals.map qv))] 4))
  clear hS h
  obtain ⟨g, rfl⟩ := hI.open_
  clear hI
  conv => arg 2; whnf
  go_wp2
  generalize w.alloc _ = w2 at *
  generalize w.heap.size = B7 at *
  have kb : ∀ j, j < 7 → w2.cell? ⟨B7, j, none⟩ = some (.bool (q.b j)) := by
    intro j hj
    have h := cell_of_row _ _ j _ _ _ HB.out
    have : j = 0 ∨ j = 1 ∨ j = 2 ∨ j = 3 ∨ j = 4 ∨ j = 5 ∨ j = 6 := by omega
    rcases this with rfl | rfl | rfl | rfl | rfl | rfl | rfl <;> exact h.trans rfl
  clear HB k0 k1 k2 k3 k4 k5 k6
  go_loop [4, 51] (fun v4 v51 => ∃ k : Nat, k ≤ 7 ∧ v51 = .int .i64 k ∧ v4 = .int .i64 (flg q.b k)) (fun _ v51 => 7 - (intOf v51).toNat)
  case atStart => exact ⟨0, by omega, rfl, rfl⟩
  case round =>
    obtain ⟨k, hk, rfl, rfl⟩ := hrel
    by_cases hlt : k < 7
    · have : k = 0 ∨ k = 1 ∨ k = 2 ∨ k = 3 ∨ k = 4 ∨ k = 5 ∨ k = 6 := by omega
      rcases this with rfl | rfl | rfl | rfl | rfl | rfl | rfl
      · have hk := kb 0 (by omega)
        have hf := flg_range q.b 0
        have ho := bits_or64 (flg q.b 0) 0 (by omega) hf.1 hf.2
        have hs : flg q.b 1 = flg q.b 0 + bit (q.b 0) (2 ^ 0) := rfl
        have Hs := Lib.hid hs
        clear hs hf kb
        generalize flg q.b 0 = f at *
        generalize q.b 0 = t at *
        simp only [Int.reducePow] at ho
        cases t with
        | true =>
          go_wp2
          go_round
          case rel => exact ⟨1, by omega, rfl, by rw [Hs.out]; rfl⟩
          case measure => simp [intOf]
        | false =>
          go_wp2
          go_round
          case rel => exact ⟨1, by omega, rfl, by rw [Hs.out]; simp [bit]⟩
          case measure => simp [intOf]
      · have hk := kb 1 (by omega)
        have hf := flg_range q.b 1
        have ho := bits_or64 (flg q.b 1) 1 (by omega) hf.1 hf.2
        have hs : flg q.b 2 = flg q.b 1 + bit (q.b 1) (2 ^ 1) := rfl
        have Hs := Lib.hid hs
        clear hs hf kb
        generalize flg q.b 1 = f at *
        generalize q.b 1 = t at *
        simp only [Int.reducePow] at ho
        cases t with
        | true =>
          go_wp2
          go_round
          case rel => exact ⟨2, by omega, rfl, by rw [Hs.out]; rfl⟩
          case measure => simp [intOf]
        | false =>
          go_wp2
          go_round
          case rel => exact ⟨2, by omega, rfl, by rw [Hs.out]; simp [bit]⟩
          case measure => simp [intOf]
      · have hk := kb 2 (by omega)
        have hf := flg_range q.b 2
        have ho := bits_or64 (flg q.b 2) 2 (by omega) hf.1 hf.2
        have hs : flg q.b 3 = flg q.b 2 + bit (q.b 2) (2 ^ 2) := rfl
        have Hs := Lib.hid hs
        clear hs hf kb
        generalize flg q.b 2 = f at *
        generalize q.b 2 = t at *
        simp only [Int.reducePow] at ho
        cases t with
        | true =>
          go_wp2
          go_round
          case rel => exact ⟨3, by omega, rfl, by rw [Hs.out]; rfl⟩
          case measure => simp [intOf]
        | false =>
          go_wp2
          go_round
          case rel => exact ⟨3, by omega, rfl, by rw [Hs.out]; simp [bit]⟩
          case measure => simp [intOf]
      · have hk := kb 3 (by omega)
        have hf := flg_range q.b 3
        have ho := bits_or64 (flg q.b 3) 3 (by omega) hf.1 hf.2
        have hs : flg q.b 4 = flg q.b 3 + bit (q.b 3) (2 ^ 3) := rfl
        have Hs := Lib.hid hs
        clear hs hf kb
        generalize flg q.b 3 = f at *
        generalize q.b 3 = t at *
        simp only [Int.reducePow] at ho
        cases t with
        | true =>
          go_wp2
          go_round
          case rel => exact ⟨4, by omega, rfl, by rw [Hs.out]; rfl⟩
          case measure => simp [intOf]
        | false =>
          go_wp2
          go_round
          case rel => exact ⟨4, by omega, rfl, by rw [Hs.out]; simp [bit]⟩
          case measure => simp [intOf]
      · have hk := kb 4 (by omega)
        have hf := flg_range q.b 4
        have ho := bits_or64 (flg q.b 4) 4 (by omega) hf.1 hf.2
        have hs : flg q.b 5 = flg q.b 4 + bit (q.b 4) (2 ^ 4) := rfl
        have Hs := Lib.hid hs
        clear hs hf kb
        generalize flg q.b 4 = f at *
        generalize q.b 4 = t at *
        simp only [Int.reducePow] at ho
        cases t with
        | true =>
          go_wp2
          go_round
          case rel => exact ⟨5, by omega, rfl, by rw [Hs.out]; rfl⟩
          case measure => simp [intOf]
        | false =>
          go_wp2
          go_round
          case rel => exact ⟨5, by omega, rfl, by rw [Hs.out]; simp [bit]⟩
          case measure => simp [intOf]
      · have hk := kb 5 (by omega)
        have hf := flg_range q.b 5
        have ho := bits_or64 (flg q.b 5) 5 (by omega) hf.1 hf.2
        have hs : flg q.b 6 = flg q.b 5 + bit (q.b 5) (2 ^ 5) := rfl
        have Hs := Lib.hid hs
        clear hs hf kb
        generalize flg q.b 5 = f at *
        generalize q.b 5 = t at *
        simp only [Int.reducePow] at ho
        cases t with
        | true =>
          go_wp2
          go_round
          case rel => exact ⟨6, by omega, rfl, by rw [Hs.out]; rfl⟩
          case measure => simp [intOf]
        | false =>
          go_wp2
          go_round
          case rel => exact ⟨6, by omega, rfl, by rw [Hs.out]; simp [bit]⟩
          case measure => simp [intOf]
      · have hk := kb 6 (by omega)
        have hf := flg_range q.b 6
        have ho := bits_or64 (flg q.b 6) 6 (by omega) hf.1 hf.2
        have hs : flg q.b 7 = flg q.b 6 + bit (q.b 6) (2 ^ 6) := rfl
        have Hs := Lib.hid hs
        clear hs hf kb
        generalize flg q.b 6 = f at *
        generalize q.b 6 = t at *
        simp only [Int.reducePow] at ho
        cases t with
        | true =>
          go_wp2
          go_round
          case rel => exact ⟨7, by omega, rfl, by rw [Hs.out]; rfl⟩
          case measure => simp [intOf]
        | false =>
          go_wp2
          go_round
          case rel => exact ⟨7, by omega, rfl, by rw [Hs.out]; simp [bit]⟩
          case measure => simp [intOf]
    · obtain rfl : k = 7 := by omega
      go_wp2
      exact HH.out _ _ ⟨rfl, rfl, rfl, rfl, rfl, rfl⟩ HS.out
end Go.Proofs.YtammjbmfiakbnaaGreatDoor
