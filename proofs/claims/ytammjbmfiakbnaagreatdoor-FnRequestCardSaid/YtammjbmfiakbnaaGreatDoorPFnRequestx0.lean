-- PRINTED BY print.sh 35421559b90ae4d0a3588c463048766b98c2df88dd9212a6774a882060cdf62d: not written by this session
import Derived.Test.YtammjbmfiakbnaaGreatDoorProg
import Derived.Below
import Derived.Deep.Draws
import Derived.Deep.AppendLies
import Derived.Maps.AppendAt
import Derived.OwnWalk
import Derived.Laws.BytesArg
import Derived.Laws.MakeOwn
import Derived.Laws.OwnMore
import Derived.Deep.OwnRows
import Derived.Tactics
import Derived.Lib.ConvBytes
import Derived.Laws.Slices
import Derived.WalkKit
import Derived.KernelRfl
import Derived.RowKit3
import Derived.Deep.LoopGhost
import Derived.Deep.QuietTactic
import Derived.BigQuiet
import Derived.WideLaws
import Derived.Deep.DeepCutAuto
import Derived.Deep.CutBlock
import Derived.Deep.RegionHeld3
import Derived.Laws.Rows
import Derived.Lib.AppendStr
import Derived.ArgAppend
import Derived.Laws.IdiomCopy
import Derived.OrdersHeld
import Derived.Laws.BitsLemmas
import Derived.RowKit
import Derived.Test.YtammjbmfiakbnaaGreatDoorWWords
import Derived.Test.YtammjbmfiakbnaaGreatDoorWLast
import Derived.Test.YtammjbmfiakbnaaGreatDoorWTab
import Derived.Test.YtammjbmfiakbnaaGreatDoorWFour
import Derived.Test.YtammjbmfiakbnaaGreatDoorWQPut
import Derived.Test.YtammjbmfiakbnaaGreatDoorWApart
import Derived.Test.YtammjbmfiakbnaaGreatDoorWArr
import Derived.Test.YtammjbmfiakbnaaGreatDoorWZeros
import Derived.Test.YtammjbmfiakbnaaGreatDoorWFoot
import Derived.Test.YtammjbmfiakbnaaGreatDoorWKept
import Derived.Test.YtammjbmfiakbnaaGreatDoorWShare
import Derived.Test.YtammjbmfiakbnaaGreatDoorWN
import Derived.Test.YtammjbmfiakbnaaGreatDoorWFootNe
import Derived.Test.YtammjbmfiakbnaaGreatDoorWAt
import Derived.Test.YtammjbmfiakbnaaGreatDoorWEqStruct
import Derived.Test.YtammjbmfiakbnaaGreatDoorWRepsOne
import Derived.Test.YtammjbmfiakbnaaGreatDoorWInv
import Derived.Test.YtammjbmfiakbnaaGreatDoorWInvWords
import Derived.Test.YtammjbmfiakbnaaGreatDoorWGuard
import Derived.Test.YtammjbmfiakbnaaGreatDoorWNEv
import Derived.Test.YtammjbmfiakbnaaGreatDoorWMore
namespace Go.Proofs.YtammjbmfiakbnaaGreatDoor.PFnRequest
open Go.RowKit Go.Proofs.YtammjbmfiakbnaaGreatDoorW.PrintWords Go.Proofs.YtammjbmfiakbnaaGreatDoorW.PrintLast Go.Proofs.YtammjbmfiakbnaaGreatDoorW.PrintMore
attribute [local go_sem] max2_int min2_int max_two min_two max_three min_three max_four min_four   -- for this text's walks alone
set_option linter.unusedVariables false
set_option linter.unusedSimpArgs false



def errW : Option Int → Value
  | none => .nilIface
  | some c => .iface 0 (.int .i64 c)
theorem errW_none : errW none = .nilIface := rfl
theorem errW_some (c : Int) : errW (some c) = .iface 0 (.int .i64 c) := rfl

theorem info54 : (Tryz.prog.info? 54).map (fun i => (i.zero, i.size, i.bytes)) = some (some (.agg #[(.string ⟨#[]⟩), (.string ⟨#[]⟩)]), 2, 32) := by kernel_rfl
theorem info58 : (Tryz.prog.info? 58).map (fun i => (i.zero, i.size, i.bytes)) = some (some (.agg #[(.string ⟨#[]⟩), (.slice none 0 0), (.slice none 0 0)]), 3, 64) := by kernel_rfl
theorem info87 : (Tryz.prog.info? 87).map (fun i => (i.zero, i.size, i.bytes)) = some (some (.agg #[(.string ⟨#[]⟩), (.bool false), (.bool false), (.slice none 0 0)]), 4, 48) := by kernel_rfl
-- the values' own types
/-! #### struct type 53 -/
structure S53 where
  f0 : ByteArray
  f1 : ByteArray
def z53 : S53 := ⟨(⟨#[]⟩ : ByteArray), (⟨#[]⟩ : ByteArray)⟩
def k53 : Kd S53 := Kd.iso (Kd.pair Kd.string Kd.string) (fun x : S53 => (x.f0, x.f1))
theorem k53_open {w : World} {x : S53} {cs : List Value} (h : k53.K w x cs) : cs = [.string x.f0, .string x.f1] := by
  obtain ⟨_, _, rfl, rfl, rfl⟩ := h
  exact rfl
theorem k53_openM {w : World} {base : Nat} {ok : Nat → Prop} {x : S53} {cs : List Value} (h : k53.M w base ok x cs) : cs = [.string x.f0, .string x.f1] := by
  obtain ⟨_, _, rfl, rfl, rfl⟩ := h
  exact rfl
theorem k53_mk (w : World) (x : S53)  : k53.K w x [.string x.f0, .string x.f1] := ⟨[.string x.f0], [.string x.f1], rfl, rfl, rfl⟩
theorem k53_mkM (w : World) (base : Nat) (ok : Nat → Prop) (x : S53)  : k53.M w base ok x [.string x.f0, .string x.f1] := ⟨[.string x.f0], [.string x.f1], rfl, rfl, rfl⟩
theorem k53_mkF (W : World) (ok : Nat → Prop) (x : S53) : Kd.FK k53 W ok x [.string x.f0, .string x.f1] := fun W2 _ => k53_mk W2 x
def rd_T53 (xs : List S53) (i : Int) : S53 := xs.getD i.toNat z53
theorem at_T53 {w : World} {A : Option Addr} {n : Nat} {xs : List S53} (h : Kd.C k53 w A n xs) (i : Int) (h0 : 0 ≤ i) (h1 : i < n) : ∃ ad , A = some ad ∧ w.cell? (ad.add (i.toNat * 2)) = some (.string (rd_T53 xs i).f0) ∧ w.cell? ⟨(ad.add (i.toNat * 2)).block, (ad.add (i.toNat * 2)).off + 1, none⟩ = some (.string (rd_T53 xs i).f1) := by
  obtain ⟨ad, c, e, _, hK, hc0⟩ := Kd.C_get h z53 i h0 h1
  have hc : ∀ j u, c[j]? = some u → w.cell? (ad.add (i.toNat * 2 + j)) = some u := hc0
  obtain rfl := k53_open hK
  exact ⟨ad, e, hc 0 _ rfl, by rw [← add_field _ _ 1 (by omega)]; exact hc 1 _ rfl⟩

def rd_L4 (xs : List (List Int)) (i : Int) : (List Int) := xs.getD i.toNat ([] : List Int)
theorem at_L4 {w : World} {A : Option Addr} {n : Nat} {xs : List (List Int)} (h : Kd.C (Kd.slice 5 (Kd.int .u8)) w A n xs) (i : Int) (h0 : 0 ≤ i) (h1 : i < n) : ∃ ad A0 c0, A = some ad ∧ w.cell? (ad.add i.toNat) = some (.slice A0 (rd_L4 xs i).length c0) ∧ (rd_L4 xs i).length ≤ c0 ∧ (Kd.int .u8).C w A0 (rd_L4 xs i).length (rd_L4 xs i) := by
  obtain ⟨ad, c, e, _, hK, hc0⟩ := Kd.C_get h ([] : List Int) i h0 h1
  have hc : ∀ j u, c[j]? = some u → w.cell? (ad.add (i.toNat * 1 + j)) = some u := hc0
  obtain ⟨A0, c0, rfl, l0, g0⟩ := hK
  exact ⟨ad, A0, c0, e, by have hq := hc 0 _ rfl; rwa [Nat.mul_one, Nat.add_zero] at hq, l0, g0⟩

/-! #### struct type 93 -/
structure S93 where
  f0 : ByteArray
  f1 : Bool
  f2 : Bool
  f3 : (List Int)
def z93 : S93 := ⟨(⟨#[]⟩ : ByteArray), false, false, ([] : List Int)⟩
def k93 : Kd S93 := Kd.iso (Kd.pair Kd.string (Kd.pair Kd.bool (Kd.pair Kd.bool (Kd.slice 5 (Kd.int .u8))))) (fun x : S93 => (x.f0, x.f1, x.f2, x.f3))
theorem k93_open {w : World} {x : S93} {cs : List Value} (h : k93.K w x cs) : ∃ A3 c3, cs = [.string x.f0, .bool x.f1, .bool x.f2, .slice A3 x.f3.length c3] ∧ x.f3.length ≤ c3 ∧ (Kd.int .u8).C w A3 x.f3.length x.f3 := by
  obtain ⟨_, _, rfl, rfl, ⟨_, _, rfl, rfl, ⟨_, _, rfl, rfl, ⟨A3, c3, rfl, l3, g3⟩⟩⟩⟩ := h
  exact ⟨A3, c3, rfl, l3, g3⟩
theorem k93_openM {w : World} {base : Nat} {ok : Nat → Prop} {x : S93} {cs : List Value} (h : k93.M w base ok x cs) : ∃ v3, cs = [.string x.f0, .bool x.f1, .bool x.f2, v3] ∧ (Kd.int .u8).R 5 w base ok v3 x.f3 := by
  obtain ⟨_, _, rfl, rfl, ⟨_, _, rfl, rfl, ⟨_, _, rfl, rfl, ⟨v3, rfl, g3⟩⟩⟩⟩ := h
  exact ⟨v3, rfl, g3⟩
theorem k93_mk (w : World) (x : S93) {A3 : Option Addr} {c3 : Nat} (l3 : x.f3.length ≤ c3) (g3 : (Kd.int .u8).C w A3 x.f3.length x.f3) : k93.K w x [.string x.f0, .bool x.f1, .bool x.f2, .slice A3 x.f3.length c3] := ⟨[.string x.f0], [.bool x.f1, .bool x.f2, .slice A3 x.f3.length c3], rfl, rfl, ⟨[.bool x.f1], [.bool x.f2, .slice A3 x.f3.length c3], rfl, rfl, ⟨[.bool x.f2], [.slice A3 x.f3.length c3], rfl, rfl, ⟨A3, c3, rfl, l3, g3⟩⟩⟩⟩
theorem k93_mkM (w : World) (base : Nat) (ok : Nat → Prop) (x : S93) {v3 : Value} (g3 : (Kd.int .u8).R 5 w base ok v3 x.f3) : k93.M w base ok x [.string x.f0, .bool x.f1, .bool x.f2, v3] := ⟨[.string x.f0], [.bool x.f1, .bool x.f2, v3], rfl, rfl, ⟨[.bool x.f1], [.bool x.f2, v3], rfl, rfl, ⟨[.bool x.f2], [v3], rfl, rfl, ⟨v3, rfl, g3⟩⟩⟩⟩
theorem k93_openF {W : World} {ok : Nat → Prop} {x : S93} {cs : List Value} (h : Kd.FK k93 W ok x cs) : ∃ A3 c3, cs = [.string x.f0, .bool x.f1, .bool x.f2, .slice A3 x.f3.length c3] ∧ x.f3.length ≤ c3 ∧ Kd.F (Kd.int .u8) W ok A3 x.f3.length x.f3 := by
  obtain ⟨A3, c3, rfl, l3, _⟩ := k93_open (Kd.FK_now h)
  exact ⟨A3, c3, rfl, l3, (fun W' hW => by obtain ⟨A3_, c3_, he, l3_, g3_⟩ := k93_open (h W' hW); injection (Option.some.inj (show some (Value.slice A3 x.f3.length c3) = some (Value.slice A3_ x.f3.length c3_) from congrArg (fun l => l[3]?) he)) with ha_ _ _; rw [ha_]; exact g3_)⟩
theorem k93_mkF (W : World) (ok : Nat → Prop) (x : S93) {A3 : Option Addr} {c3 : Nat} (l3 : x.f3.length ≤ c3) (g3 : Kd.F (Kd.int .u8) W ok A3 x.f3.length x.f3) : Kd.FK k93 W ok x [.string x.f0, .bool x.f1, .bool x.f2, .slice A3 x.f3.length c3] := fun W2 hW => k93_mk W2 x l3 (g3 W2 hW)
def rd_T93 (xs : List S93) (i : Int) : S93 := xs.getD i.toNat z93
theorem at_T93 {w : World} {A : Option Addr} {n : Nat} {xs : List S93} (h : Kd.C k93 w A n xs) (i : Int) (h0 : 0 ≤ i) (h1 : i < n) : ∃ ad A3 c3, A = some ad ∧ w.cell? (ad.add (i.toNat * 4)) = some (.string (rd_T93 xs i).f0) ∧ w.cell? ⟨(ad.add (i.toNat * 4)).block, (ad.add (i.toNat * 4)).off + 1, none⟩ = some (.bool (rd_T93 xs i).f1) ∧ w.cell? ⟨(ad.add (i.toNat * 4)).block, (ad.add (i.toNat * 4)).off + 2, none⟩ = some (.bool (rd_T93 xs i).f2) ∧ w.cell? ⟨(ad.add (i.toNat * 4)).block, (ad.add (i.toNat * 4)).off + 3, none⟩ = some (.slice A3 (rd_T93 xs i).f3.length c3) ∧ (rd_T93 xs i).f3.length ≤ c3 ∧ (Kd.int .u8).C w A3 (rd_T93 xs i).f3.length (rd_T93 xs i).f3 := by
  obtain ⟨ad, c, e, _, hK, hc0⟩ := Kd.C_get h z93 i h0 h1
  have hc : ∀ j u, c[j]? = some u → w.cell? (ad.add (i.toNat * 4 + j)) = some u := hc0
  obtain ⟨A3, c3, rfl, l3, g3⟩ := k93_open hK
  exact ⟨ad, A3, c3, e, hc 0 _ rfl, by rw [← add_field _ _ 1 (by omega)]; exact hc 1 _ rfl, by rw [← add_field _ _ 2 (by omega)]; exact hc 2 _ rfl, by rw [← add_field _ _ 3 (by omega)]; exact hc 3 _ rfl, l3, g3⟩

def rd_L7 (xs : List (List S93)) (i : Int) : (List S93) := xs.getD i.toNat ([] : List S93)
theorem at_L7 {w : World} {A : Option Addr} {n : Nat} {xs : List (List S93)} (h : Kd.C (Kd.slice 93 k93) w A n xs) (i : Int) (h0 : 0 ≤ i) (h1 : i < n) : ∃ ad A0 c0, A = some ad ∧ w.cell? (ad.add i.toNat) = some (.slice A0 (rd_L7 xs i).length c0) ∧ (rd_L7 xs i).length ≤ c0 ∧ k93.C w A0 (rd_L7 xs i).length (rd_L7 xs i) := by
  obtain ⟨ad, c, e, _, hK, hc0⟩ := Kd.C_get h ([] : List S93) i h0 h1
  have hc : ∀ j u, c[j]? = some u → w.cell? (ad.add (i.toNat * 1 + j)) = some u := hc0
  obtain ⟨A0, c0, rfl, l0, g0⟩ := hK
  exact ⟨ad, A0, c0, e, by have hq := hc 0 _ rfl; rwa [Nat.mul_one, Nat.add_zero] at hq, l0, g0⟩

/-! #### struct type 56 -/
structure S56 where
  f0 : ByteArray
  f1 : (List Int)
  f2 : (List S93)
def z56 : S56 := ⟨(⟨#[]⟩ : ByteArray), ([] : List Int), ([] : List S93)⟩
def k56 : Kd S56 := Kd.iso (Kd.pair Kd.string (Kd.pair (Kd.slice 5 (Kd.int .u8)) (Kd.slice 93 k93))) (fun x : S56 => (x.f0, x.f1, x.f2))
theorem k56_open {w : World} {x : S56} {cs : List Value} (h : k56.K w x cs) : ∃ A1 c1 A2 c2, cs = [.string x.f0, .slice A1 x.f1.length c1, .slice A2 x.f2.length c2] ∧ x.f1.length ≤ c1 ∧ (Kd.int .u8).C w A1 x.f1.length x.f1 ∧ x.f2.length ≤ c2 ∧ k93.C w A2 x.f2.length x.f2 := by
  obtain ⟨_, _, rfl, rfl, ⟨_, _, rfl, ⟨A1, c1, rfl, l1, g1⟩, ⟨A2, c2, rfl, l2, g2⟩⟩⟩ := h
  exact ⟨A1, c1, A2, c2, rfl, l1, g1, l2, g2⟩
theorem k56_openM {w : World} {base : Nat} {ok : Nat → Prop} {x : S56} {cs : List Value} (h : k56.M w base ok x cs) : ∃ v1 v2, cs = [.string x.f0, v1, v2] ∧ (Kd.int .u8).R 5 w base ok v1 x.f1 ∧ k93.R 93 w base ok v2 x.f2 := by
  obtain ⟨_, _, rfl, rfl, ⟨_, _, rfl, ⟨v1, rfl, g1⟩, ⟨v2, rfl, g2⟩⟩⟩ := h
  exact ⟨v1, v2, rfl, g1, g2⟩
theorem k56_mk (w : World) (x : S56) {A1 : Option Addr} {c1 : Nat} (l1 : x.f1.length ≤ c1) (g1 : (Kd.int .u8).C w A1 x.f1.length x.f1) {A2 : Option Addr} {c2 : Nat} (l2 : x.f2.length ≤ c2) (g2 : k93.C w A2 x.f2.length x.f2) : k56.K w x [.string x.f0, .slice A1 x.f1.length c1, .slice A2 x.f2.length c2] := ⟨[.string x.f0], [.slice A1 x.f1.length c1, .slice A2 x.f2.length c2], rfl, rfl, ⟨[.slice A1 x.f1.length c1], [.slice A2 x.f2.length c2], rfl, ⟨A1, c1, rfl, l1, g1⟩, ⟨A2, c2, rfl, l2, g2⟩⟩⟩
theorem k56_mkM (w : World) (base : Nat) (ok : Nat → Prop) (x : S56) {v1 : Value} (g1 : (Kd.int .u8).R 5 w base ok v1 x.f1) {v2 : Value} (g2 : k93.R 93 w base ok v2 x.f2) : k56.M w base ok x [.string x.f0, v1, v2] := ⟨[.string x.f0], [v1, v2], rfl, rfl, ⟨[v1], [v2], rfl, ⟨v1, rfl, g1⟩, ⟨v2, rfl, g2⟩⟩⟩
theorem k56_openF {W : World} {ok : Nat → Prop} {x : S56} {cs : List Value} (h : Kd.FK k56 W ok x cs) : ∃ A1 c1 A2 c2, cs = [.string x.f0, .slice A1 x.f1.length c1, .slice A2 x.f2.length c2] ∧ x.f1.length ≤ c1 ∧ Kd.F (Kd.int .u8) W ok A1 x.f1.length x.f1 ∧ x.f2.length ≤ c2 ∧ Kd.F k93 W ok A2 x.f2.length x.f2 := by
  obtain ⟨A1, c1, A2, c2, rfl, l1, _, l2, _⟩ := k56_open (Kd.FK_now h)
  exact ⟨A1, c1, A2, c2, rfl, l1, (fun W' hW => by obtain ⟨A1_, c1_, A2_, c2_, he, l1_, g1_, l2_, g2_⟩ := k56_open (h W' hW); injection (Option.some.inj (show some (Value.slice A1 x.f1.length c1) = some (Value.slice A1_ x.f1.length c1_) from congrArg (fun l => l[1]?) he)) with ha_ _ _; rw [ha_]; exact g1_), l2, (fun W' hW => by obtain ⟨A1_, c1_, A2_, c2_, he, l1_, g1_, l2_, g2_⟩ := k56_open (h W' hW); injection (Option.some.inj (show some (Value.slice A2 x.f2.length c2) = some (Value.slice A2_ x.f2.length c2_) from congrArg (fun l => l[2]?) he)) with ha_ _ _; rw [ha_]; exact g2_)⟩
theorem k56_mkF (W : World) (ok : Nat → Prop) (x : S56) {A1 : Option Addr} {c1 : Nat} (l1 : x.f1.length ≤ c1) (g1 : Kd.F (Kd.int .u8) W ok A1 x.f1.length x.f1) {A2 : Option Addr} {c2 : Nat} (l2 : x.f2.length ≤ c2) (g2 : Kd.F k93 W ok A2 x.f2.length x.f2) : Kd.FK k56 W ok x [.string x.f0, .slice A1 x.f1.length c1, .slice A2 x.f2.length c2] := fun W2 hW => k56_mk W2 x l1 (g1 W2 hW) l2 (g2 W2 hW)
def rd_T56 (xs : List S56) (i : Int) : S56 := xs.getD i.toNat z56
theorem at_T56 {w : World} {A : Option Addr} {n : Nat} {xs : List S56} (h : Kd.C k56 w A n xs) (i : Int) (h0 : 0 ≤ i) (h1 : i < n) : ∃ ad A1 c1 A2 c2, A = some ad ∧ w.cell? (ad.add (i.toNat * 3)) = some (.string (rd_T56 xs i).f0) ∧ w.cell? ⟨(ad.add (i.toNat * 3)).block, (ad.add (i.toNat * 3)).off + 1, none⟩ = some (.slice A1 (rd_T56 xs i).f1.length c1) ∧ w.cell? ⟨(ad.add (i.toNat * 3)).block, (ad.add (i.toNat * 3)).off + 2, none⟩ = some (.slice A2 (rd_T56 xs i).f2.length c2) ∧ (rd_T56 xs i).f1.length ≤ c1 ∧ (Kd.int .u8).C w A1 (rd_T56 xs i).f1.length (rd_T56 xs i).f1 ∧ (rd_T56 xs i).f2.length ≤ c2 ∧ k93.C w A2 (rd_T56 xs i).f2.length (rd_T56 xs i).f2 := by
  obtain ⟨ad, c, e, _, hK, hc0⟩ := Kd.C_get h z56 i h0 h1
  have hc : ∀ j u, c[j]? = some u → w.cell? (ad.add (i.toNat * 3 + j)) = some u := hc0
  obtain ⟨A1, c1, A2, c2, rfl, l1, g1, l2, g2⟩ := k56_open hK
  exact ⟨ad, A1, c1, A2, c2, e, hc 0 _ rfl, by rw [← add_field _ _ 1 (by omega)]; exact hc 1 _ rfl, by rw [← add_field _ _ 2 (by omega)]; exact hc 2 _ rfl, l1, g1, l2, g2⟩

/-! #### struct type 87 -/
structure S87 where
  f0 : ByteArray
  f1 : Bool
  f2 : Bool
  f3 : (List Int)
def z87 : S87 := ⟨(⟨#[]⟩ : ByteArray), false, false, ([] : List Int)⟩
def k87 : Kd S87 := Kd.iso (Kd.pair Kd.string (Kd.pair Kd.bool (Kd.pair Kd.bool (Kd.slice 5 (Kd.int .u8))))) (fun x : S87 => (x.f0, x.f1, x.f2, x.f3))
theorem k87_open {w : World} {x : S87} {cs : List Value} (h : k87.K w x cs) : ∃ A3 c3, cs = [.string x.f0, .bool x.f1, .bool x.f2, .slice A3 x.f3.length c3] ∧ x.f3.length ≤ c3 ∧ (Kd.int .u8).C w A3 x.f3.length x.f3 := by
  obtain ⟨_, _, rfl, rfl, ⟨_, _, rfl, rfl, ⟨_, _, rfl, rfl, ⟨A3, c3, rfl, l3, g3⟩⟩⟩⟩ := h
  exact ⟨A3, c3, rfl, l3, g3⟩
theorem k87_openM {w : World} {base : Nat} {ok : Nat → Prop} {x : S87} {cs : List Value} (h : k87.M w base ok x cs) : ∃ v3, cs = [.string x.f0, .bool x.f1, .bool x.f2, v3] ∧ (Kd.int .u8).R 5 w base ok v3 x.f3 := by
  obtain ⟨_, _, rfl, rfl, ⟨_, _, rfl, rfl, ⟨_, _, rfl, rfl, ⟨v3, rfl, g3⟩⟩⟩⟩ := h
  exact ⟨v3, rfl, g3⟩
theorem k87_mk (w : World) (x : S87) {A3 : Option Addr} {c3 : Nat} (l3 : x.f3.length ≤ c3) (g3 : (Kd.int .u8).C w A3 x.f3.length x.f3) : k87.K w x [.string x.f0, .bool x.f1, .bool x.f2, .slice A3 x.f3.length c3] := ⟨[.string x.f0], [.bool x.f1, .bool x.f2, .slice A3 x.f3.length c3], rfl, rfl, ⟨[.bool x.f1], [.bool x.f2, .slice A3 x.f3.length c3], rfl, rfl, ⟨[.bool x.f2], [.slice A3 x.f3.length c3], rfl, rfl, ⟨A3, c3, rfl, l3, g3⟩⟩⟩⟩
theorem k87_mkM (w : World) (base : Nat) (ok : Nat → Prop) (x : S87) {v3 : Value} (g3 : (Kd.int .u8).R 5 w base ok v3 x.f3) : k87.M w base ok x [.string x.f0, .bool x.f1, .bool x.f2, v3] := ⟨[.string x.f0], [.bool x.f1, .bool x.f2, v3], rfl, rfl, ⟨[.bool x.f1], [.bool x.f2, v3], rfl, rfl, ⟨[.bool x.f2], [v3], rfl, rfl, ⟨v3, rfl, g3⟩⟩⟩⟩
theorem k87_openF {W : World} {ok : Nat → Prop} {x : S87} {cs : List Value} (h : Kd.FK k87 W ok x cs) : ∃ A3 c3, cs = [.string x.f0, .bool x.f1, .bool x.f2, .slice A3 x.f3.length c3] ∧ x.f3.length ≤ c3 ∧ Kd.F (Kd.int .u8) W ok A3 x.f3.length x.f3 := by
  obtain ⟨A3, c3, rfl, l3, _⟩ := k87_open (Kd.FK_now h)
  exact ⟨A3, c3, rfl, l3, (fun W' hW => by obtain ⟨A3_, c3_, he, l3_, g3_⟩ := k87_open (h W' hW); injection (Option.some.inj (show some (Value.slice A3 x.f3.length c3) = some (Value.slice A3_ x.f3.length c3_) from congrArg (fun l => l[3]?) he)) with ha_ _ _; rw [ha_]; exact g3_)⟩
theorem k87_mkF (W : World) (ok : Nat → Prop) (x : S87) {A3 : Option Addr} {c3 : Nat} (l3 : x.f3.length ≤ c3) (g3 : Kd.F (Kd.int .u8) W ok A3 x.f3.length x.f3) : Kd.FK k87 W ok x [.string x.f0, .bool x.f1, .bool x.f2, .slice A3 x.f3.length c3] := fun W2 hW => k87_mk W2 x l3 (g3 W2 hW)
def rd_T87 (xs : List S87) (i : Int) : S87 := xs.getD i.toNat z87
theorem at_T87 {w : World} {A : Option Addr} {n : Nat} {xs : List S87} (h : Kd.C k87 w A n xs) (i : Int) (h0 : 0 ≤ i) (h1 : i < n) : ∃ ad A3 c3, A = some ad ∧ w.cell? (ad.add (i.toNat * 4)) = some (.string (rd_T87 xs i).f0) ∧ w.cell? ⟨(ad.add (i.toNat * 4)).block, (ad.add (i.toNat * 4)).off + 1, none⟩ = some (.bool (rd_T87 xs i).f1) ∧ w.cell? ⟨(ad.add (i.toNat * 4)).block, (ad.add (i.toNat * 4)).off + 2, none⟩ = some (.bool (rd_T87 xs i).f2) ∧ w.cell? ⟨(ad.add (i.toNat * 4)).block, (ad.add (i.toNat * 4)).off + 3, none⟩ = some (.slice A3 (rd_T87 xs i).f3.length c3) ∧ (rd_T87 xs i).f3.length ≤ c3 ∧ (Kd.int .u8).C w A3 (rd_T87 xs i).f3.length (rd_T87 xs i).f3 := by
  obtain ⟨ad, c, e, _, hK, hc0⟩ := Kd.C_get h z87 i h0 h1
  have hc : ∀ j u, c[j]? = some u → w.cell? (ad.add (i.toNat * 4 + j)) = some u := hc0
  obtain ⟨A3, c3, rfl, l3, g3⟩ := k87_open hK
  exact ⟨ad, A3, c3, e, hc 0 _ rfl, by rw [← add_field _ _ 1 (by omega)]; exact hc 1 _ rfl, by rw [← add_field _ _ 2 (by omega)]; exact hc 2 _ rfl, by rw [← add_field _ _ 3 (by omega)]; exact hc 3 _ rfl, l3, g3⟩

/-! #### struct type 54 -/
structure S54 where
  f0 : ByteArray
  f1 : ByteArray
def z54 : S54 := ⟨(⟨#[]⟩ : ByteArray), (⟨#[]⟩ : ByteArray)⟩
def k54 : Kd S54 := Kd.iso (Kd.pair Kd.string Kd.string) (fun x : S54 => (x.f0, x.f1))
theorem k54_open {w : World} {x : S54} {cs : List Value} (h : k54.K w x cs) : cs = [.string x.f0, .string x.f1] := by
  obtain ⟨_, _, rfl, rfl, rfl⟩ := h
  exact rfl
theorem k54_openM {w : World} {base : Nat} {ok : Nat → Prop} {x : S54} {cs : List Value} (h : k54.M w base ok x cs) : cs = [.string x.f0, .string x.f1] := by
  obtain ⟨_, _, rfl, rfl, rfl⟩ := h
  exact rfl
theorem k54_mk (w : World) (x : S54)  : k54.K w x [.string x.f0, .string x.f1] := ⟨[.string x.f0], [.string x.f1], rfl, rfl, rfl⟩
theorem k54_mkM (w : World) (base : Nat) (ok : Nat → Prop) (x : S54)  : k54.M w base ok x [.string x.f0, .string x.f1] := ⟨[.string x.f0], [.string x.f1], rfl, rfl, rfl⟩
theorem k54_mkF (W : World) (ok : Nat → Prop) (x : S54) : Kd.FK k54 W ok x [.string x.f0, .string x.f1] := fun W2 _ => k54_mk W2 x
def rd_T54 (xs : List S54) (i : Int) : S54 := xs.getD i.toNat z54
theorem at_T54 {w : World} {A : Option Addr} {n : Nat} {xs : List S54} (h : Kd.C k54 w A n xs) (i : Int) (h0 : 0 ≤ i) (h1 : i < n) : ∃ ad , A = some ad ∧ w.cell? (ad.add (i.toNat * 2)) = some (.string (rd_T54 xs i).f0) ∧ w.cell? ⟨(ad.add (i.toNat * 2)).block, (ad.add (i.toNat * 2)).off + 1, none⟩ = some (.string (rd_T54 xs i).f1) := by
  obtain ⟨ad, c, e, _, hK, hc0⟩ := Kd.C_get h z54 i h0 h1
  have hc : ∀ j u, c[j]? = some u → w.cell? (ad.add (i.toNat * 2 + j)) = some u := hc0
  obtain rfl := k54_open hK
  exact ⟨ad, e, hc 0 _ rfl, by rw [← add_field _ _ 1 (by omega)]; exact hc 1 _ rfl⟩

def rd_L11 (xs : List (List S87)) (i : Int) : (List S87) := xs.getD i.toNat ([] : List S87)
theorem at_L11 {w : World} {A : Option Addr} {n : Nat} {xs : List (List S87)} (h : Kd.C (Kd.slice 87 k87) w A n xs) (i : Int) (h0 : 0 ≤ i) (h1 : i < n) : ∃ ad A0 c0, A = some ad ∧ w.cell? (ad.add i.toNat) = some (.slice A0 (rd_L11 xs i).length c0) ∧ (rd_L11 xs i).length ≤ c0 ∧ k87.C w A0 (rd_L11 xs i).length (rd_L11 xs i) := by
  obtain ⟨ad, c, e, _, hK, hc0⟩ := Kd.C_get h ([] : List S87) i h0 h1
  have hc : ∀ j u, c[j]? = some u → w.cell? (ad.add (i.toNat * 1 + j)) = some u := hc0
  obtain ⟨A0, c0, rfl, l0, g0⟩ := hK
  exact ⟨ad, A0, c0, e, by have hq := hc 0 _ rfl; rwa [Nat.mul_one, Nat.add_zero] at hq, l0, g0⟩

/-! #### struct type 58 -/
structure S58 where
  f0 : ByteArray
  f1 : (List Int)
  f2 : (List S87)
def z58 : S58 := ⟨(⟨#[]⟩ : ByteArray), ([] : List Int), ([] : List S87)⟩
def k58 : Kd S58 := Kd.iso (Kd.pair Kd.string (Kd.pair (Kd.slice 5 (Kd.int .u8)) (Kd.slice 87 k87))) (fun x : S58 => (x.f0, x.f1, x.f2))
theorem k58_open {w : World} {x : S58} {cs : List Value} (h : k58.K w x cs) : ∃ A1 c1 A2 c2, cs = [.string x.f0, .slice A1 x.f1.length c1, .slice A2 x.f2.length c2] ∧ x.f1.length ≤ c1 ∧ (Kd.int .u8).C w A1 x.f1.length x.f1 ∧ x.f2.length ≤ c2 ∧ k87.C w A2 x.f2.length x.f2 := by
  obtain ⟨_, _, rfl, rfl, ⟨_, _, rfl, ⟨A1, c1, rfl, l1, g1⟩, ⟨A2, c2, rfl, l2, g2⟩⟩⟩ := h
  exact ⟨A1, c1, A2, c2, rfl, l1, g1, l2, g2⟩
theorem k58_openM {w : World} {base : Nat} {ok : Nat → Prop} {x : S58} {cs : List Value} (h : k58.M w base ok x cs) : ∃ v1 v2, cs = [.string x.f0, v1, v2] ∧ (Kd.int .u8).R 5 w base ok v1 x.f1 ∧ k87.R 87 w base ok v2 x.f2 := by
  obtain ⟨_, _, rfl, rfl, ⟨_, _, rfl, ⟨v1, rfl, g1⟩, ⟨v2, rfl, g2⟩⟩⟩ := h
  exact ⟨v1, v2, rfl, g1, g2⟩
theorem k58_mk (w : World) (x : S58) {A1 : Option Addr} {c1 : Nat} (l1 : x.f1.length ≤ c1) (g1 : (Kd.int .u8).C w A1 x.f1.length x.f1) {A2 : Option Addr} {c2 : Nat} (l2 : x.f2.length ≤ c2) (g2 : k87.C w A2 x.f2.length x.f2) : k58.K w x [.string x.f0, .slice A1 x.f1.length c1, .slice A2 x.f2.length c2] := ⟨[.string x.f0], [.slice A1 x.f1.length c1, .slice A2 x.f2.length c2], rfl, rfl, ⟨[.slice A1 x.f1.length c1], [.slice A2 x.f2.length c2], rfl, ⟨A1, c1, rfl, l1, g1⟩, ⟨A2, c2, rfl, l2, g2⟩⟩⟩
theorem k58_mkM (w : World) (base : Nat) (ok : Nat → Prop) (x : S58) {v1 : Value} (g1 : (Kd.int .u8).R 5 w base ok v1 x.f1) {v2 : Value} (g2 : k87.R 87 w base ok v2 x.f2) : k58.M w base ok x [.string x.f0, v1, v2] := ⟨[.string x.f0], [v1, v2], rfl, rfl, ⟨[v1], [v2], rfl, ⟨v1, rfl, g1⟩, ⟨v2, rfl, g2⟩⟩⟩
theorem k58_openF {W : World} {ok : Nat → Prop} {x : S58} {cs : List Value} (h : Kd.FK k58 W ok x cs) : ∃ A1 c1 A2 c2, cs = [.string x.f0, .slice A1 x.f1.length c1, .slice A2 x.f2.length c2] ∧ x.f1.length ≤ c1 ∧ Kd.F (Kd.int .u8) W ok A1 x.f1.length x.f1 ∧ x.f2.length ≤ c2 ∧ Kd.F k87 W ok A2 x.f2.length x.f2 := by
  obtain ⟨A1, c1, A2, c2, rfl, l1, _, l2, _⟩ := k58_open (Kd.FK_now h)
  exact ⟨A1, c1, A2, c2, rfl, l1, (fun W' hW => by obtain ⟨A1_, c1_, A2_, c2_, he, l1_, g1_, l2_, g2_⟩ := k58_open (h W' hW); injection (Option.some.inj (show some (Value.slice A1 x.f1.length c1) = some (Value.slice A1_ x.f1.length c1_) from congrArg (fun l => l[1]?) he)) with ha_ _ _; rw [ha_]; exact g1_), l2, (fun W' hW => by obtain ⟨A1_, c1_, A2_, c2_, he, l1_, g1_, l2_, g2_⟩ := k58_open (h W' hW); injection (Option.some.inj (show some (Value.slice A2 x.f2.length c2) = some (Value.slice A2_ x.f2.length c2_) from congrArg (fun l => l[2]?) he)) with ha_ _ _; rw [ha_]; exact g2_)⟩
theorem k58_mkF (W : World) (ok : Nat → Prop) (x : S58) {A1 : Option Addr} {c1 : Nat} (l1 : x.f1.length ≤ c1) (g1 : Kd.F (Kd.int .u8) W ok A1 x.f1.length x.f1) {A2 : Option Addr} {c2 : Nat} (l2 : x.f2.length ≤ c2) (g2 : Kd.F k87 W ok A2 x.f2.length x.f2) : Kd.FK k58 W ok x [.string x.f0, .slice A1 x.f1.length c1, .slice A2 x.f2.length c2] := fun W2 hW => k58_mk W2 x l1 (g1 W2 hW) l2 (g2 W2 hW)
def rd_T58 (xs : List S58) (i : Int) : S58 := xs.getD i.toNat z58
theorem at_T58 {w : World} {A : Option Addr} {n : Nat} {xs : List S58} (h : Kd.C k58 w A n xs) (i : Int) (h0 : 0 ≤ i) (h1 : i < n) : ∃ ad A1 c1 A2 c2, A = some ad ∧ w.cell? (ad.add (i.toNat * 3)) = some (.string (rd_T58 xs i).f0) ∧ w.cell? ⟨(ad.add (i.toNat * 3)).block, (ad.add (i.toNat * 3)).off + 1, none⟩ = some (.slice A1 (rd_T58 xs i).f1.length c1) ∧ w.cell? ⟨(ad.add (i.toNat * 3)).block, (ad.add (i.toNat * 3)).off + 2, none⟩ = some (.slice A2 (rd_T58 xs i).f2.length c2) ∧ (rd_T58 xs i).f1.length ≤ c1 ∧ (Kd.int .u8).C w A1 (rd_T58 xs i).f1.length (rd_T58 xs i).f1 ∧ (rd_T58 xs i).f2.length ≤ c2 ∧ k87.C w A2 (rd_T58 xs i).f2.length (rd_T58 xs i).f2 := by
  obtain ⟨ad, c, e, _, hK, hc0⟩ := Kd.C_get h z58 i h0 h1
  have hc : ∀ j u, c[j]? = some u → w.cell? (ad.add (i.toNat * 3 + j)) = some u := hc0
  obtain ⟨A1, c1, A2, c2, rfl, l1, g1, l2, g2⟩ := k58_open hK
  exact ⟨ad, A1, c1, A2, c2, e, hc 0 _ rfl, by rw [← add_field _ _ 1 (by omega)]; exact hc 1 _ rfl, by rw [← add_field _ _ 2 (by omega)]; exact hc 2 _ rfl, l1, g1, l2, g2⟩

end Go.Proofs.YtammjbmfiakbnaaGreatDoor.PFnRequest
