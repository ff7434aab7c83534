/-
  zzBuild over each kind of frame, and the ZZ functions that call it. Values that are bound, and the parameters of a query, as the ZZ functions turn them. ZZQuery and ZZExecute.
-/
import Derived.Test.YtammjbmfiakbnaaGreatDoorI
namespace Go.Proofs.YtammjbmfiakbnaaGreatDoor
set_option maxHeartbeats 2000000
set_option maxRecDepth 100000
set_option linter.unusedSimpArgs false
set_option linter.unusedVariables false
open Go.RowKit Go.Proofs.YtammjbmfiakbnaaGreatDoorW.PrintWords Go.Proofs.YtammjbmfiakbnaaGreatDoorW.PrintLast Go.Proofs.YtammjbmfiakbnaaGreatDoorW.PrintMore
theorem StrRow.below_ {w w1 : World} {A : Option Addr} {xs : List ByteArray} (h : StrRow w A xs) (hb : Below w.heap.size w w1) : StrRow w1 A xs := by
  intro h0
  obtain ⟨g, hA, hc⟩ := h h0
  exact ⟨g, hA, fun i x hx => pw_cell_below hb (hc i x hx)⟩
/-- The bytes that a call hands back: in a row of its own. -/
def Out (w w' : World) (v : Value) (bs : List Int) : Prop := Below w.heap.size w w' ∧ w'.ownsRow w.heap.size 5 1 v bs.length (nums .u8 bs)
theorem own_lower {w : World} {B B' : Nat} {e : TypeId} {size n : Nat} {v : Value} {xs : List Value} (h : w.ownsRow B e size v n xs) (hB : B' ≤ B) : w.ownsRow B' e size v n xs := by
  refine ⟨h.1, ?_⟩
  rcases h.2 with hn | ⟨g, cap, cur, hv, hb, rest⟩
  · exact .inl hn
  · exact .inr ⟨g, cap, cur, hv, Nat.le_trans hB hb, rest⟩
theorem Out.lower {w w0 w' : World} {v : Value} {bs : List Int} (h : Out w0 w' v bs) (hb : Below w.heap.size w w0) : Out w w' v bs := ⟨below_then hb hb.size h.1, own_lower h.2 hb.size⟩
theorem zzBuild_any (w : World) (p s : Int) (T K B : Nat) (bs : List Int) (hp : p = 3 ∨ p = 4)
    (hm : ∀ w, (method 584 T (.pointer (some ⟨B, 0, none⟩)) "gocqlframes/pub/gocql.buildFrame").run Tryz.prog w = .ok (K, .pointer (some ⟨B, 0, none⟩)) w)
    (hf : ∀ args w, (callFunc K args).run Tryz.prog w = .ok (.enter K args) w)
    (hc : ∀ F w1, Fs w w1 F p → Calls Tryz.prog K #[.pointer (some ⟨B, 0, none⟩), .pointer (some ⟨F, 0, none⟩), .int .i64 s] w1 fun e w' => e = .returned .nilIface ∧ Fr w w' F p bs) :
    Calls Tryz.prog 82 #[.int .u8 p, .int .i64 s, .iface T (.pointer (some ⟨B, 0, none⟩))] w fun e w' => ∃ v, e = .returned (.tuple #[v, .nilIface]) ∧ Out w w' v bs := by
  have HC := Lib.hid hc
  clear hc
  go_enter Tryz.func82, Tryz.ntmps82
  go_wp2_with fail
  refine (newFramer_any w p hp).mono ?_
  rintro e w1 ⟨F, rfl, hF⟩
  go_wp2_with fail
  refine (HC.out F _ hF).mono ?_
  rintro e w2 ⟨rfl, hW⟩
  obtain ⟨hb, hF2, rb, v, hcl, ho⟩ := hW
  have hk := f_cell hcl 7
  clear hcl hF
  go_wp2_with fail
  go_ret2
  exact ⟨v, rfl, hb, ho⟩
theorem m304 (B : Nat) (w : World) : (method 584 175 (.pointer (some ⟨B, 0, none⟩)) "gocqlframes/pub/gocql.buildFrame").run Tryz.prog w = .ok (304, .pointer (some ⟨B, 0, none⟩)) w := by kernel_rfl
theorem g304 (args : Array Value) (w : World) : (callFunc 304 args).run Tryz.prog w = .ok (.enter 304 args) w := by
  obtain ⟨c, hc⟩ := Option.isSome_iff_exists.1 (show Tryz.f304.body.isSome = true from rfl)
  simp [callFunc, Tryz.func304, hc, show Tryz.f304.name = "(*gocqlframes/pub/gocql.writeOptionsFrame).buildFrame" from rfl]
theorem m332 (B : Nat) (w : World) : (method 584 204 (.pointer (some ⟨B, 0, none⟩)) "gocqlframes/pub/gocql.buildFrame").run Tryz.prog w = .ok (332, .pointer (some ⟨B, 0, none⟩)) w := by kernel_rfl
theorem g332 (args : Array Value) (w : World) : (callFunc 332 args).run Tryz.prog w = .ok (.enter 332 args) w := by
  obtain ⟨c, hc⟩ := Option.isSome_iff_exists.1 (show Tryz.f332.body.isSome = true from rfl)
  simp [callFunc, Tryz.func332, hc, show Tryz.f332.name = "(*gocqlframes/pub/gocql.writeAuthResponseFrame).buildFrame" from rfl]
theorem m327 (B : Nat) (w : World) : (method 584 192 (.pointer (some ⟨B, 0, none⟩)) "gocqlframes/pub/gocql.buildFrame").run Tryz.prog w = .ok (327, .pointer (some ⟨B, 0, none⟩)) w := by kernel_rfl
theorem g327 (args : Array Value) (w : World) : (callFunc 327 args).run Tryz.prog w = .ok (.enter 327 args) w := by
  obtain ⟨c, hc⟩ := Option.isSome_iff_exists.1 (show Tryz.f327.body.isSome = true from rfl)
  simp [callFunc, Tryz.func327, hc, show Tryz.f327.name = "(*gocqlframes/pub/gocql.writeRegisterFrame).buildFrame" from rfl]
theorem m306 (B : Nat) (w : World) : (method 584 179 (.pointer (some ⟨B, 0, none⟩)) "gocqlframes/pub/gocql.buildFrame").run Tryz.prog w = .ok (306, .pointer (some ⟨B, 0, none⟩)) w := by kernel_rfl
theorem g306 (args : Array Value) (w : World) : (callFunc 306 args).run Tryz.prog w = .ok (.enter 306 args) w := by
  obtain ⟨c, hc⟩ := Option.isSome_iff_exists.1 (show Tryz.f306.body.isSome = true from rfl)
  simp [callFunc, Tryz.func306, hc, show Tryz.f306.name = "(*gocqlframes/pub/gocql.writeQueryFrame).buildFrame" from rfl]
theorem m324 (B : Nat) (w : World) : (method 584 189 (.pointer (some ⟨B, 0, none⟩)) "gocqlframes/pub/gocql.buildFrame").run Tryz.prog w = .ok (324, .pointer (some ⟨B, 0, none⟩)) w := by kernel_rfl
theorem g324 (args : Array Value) (w : World) : (callFunc 324 args).run Tryz.prog w = .ok (.enter 324 args) w := by
  obtain ⟨c, hc⟩ := Option.isSome_iff_exists.1 (show Tryz.f324.body.isSome = true from rfl)
  simp [callFunc, Tryz.func324, hc, show Tryz.f324.name = "(*gocqlframes/pub/gocql.writeExecuteFrame).buildFrame" from rfl]
theorem m323 (B : Nat) (w : World) : (method 584 186 (.pointer (some ⟨B, 0, none⟩)) "gocqlframes/pub/gocql.buildFrame").run Tryz.prog w = .ok (323, .pointer (some ⟨B, 0, none⟩)) w := by kernel_rfl
theorem g323 (args : Array Value) (w : World) : (callFunc 323 args).run Tryz.prog w = .ok (.enter 323 args) w := by
  obtain ⟨c, hc⟩ := Option.isSome_iff_exists.1 (show Tryz.f323.body.isSome = true from rfl)
  simp [callFunc, Tryz.func323, hc, show Tryz.f323.name = "(*gocqlframes/pub/gocql.writePrepareFrame).buildFrame" from rfl]
theorem m330 (B : Nat) (w : World) : (method 584 195 (.pointer (some ⟨B, 0, none⟩)) "gocqlframes/pub/gocql.buildFrame").run Tryz.prog w = .ok (330, .pointer (some ⟨B, 0, none⟩)) w := by kernel_rfl
theorem g330 (args : Array Value) (w : World) : (callFunc 330 args).run Tryz.prog w = .ok (.enter 330 args) w := by
  obtain ⟨c, hc⟩ := Option.isSome_iff_exists.1 (show Tryz.f330.body.isSome = true from rfl)
  simp [callFunc, Tryz.func330, hc, show Tryz.f330.name = "(*gocqlframes/pub/gocql.writeBatchFrame).buildFrame" from rfl]
theorem m277 (B : Nat) (w : World) : (method 584 172 (.pointer (some ⟨B, 0, none⟩)) "gocqlframes/pub/gocql.buildFrame").run Tryz.prog w = .ok (277, .pointer (some ⟨B, 0, none⟩)) w := by kernel_rfl
theorem g277 (args : Array Value) (w : World) : (callFunc 277 args).run Tryz.prog w = .ok (.enter 277 args) w := by
  obtain ⟨c, hc⟩ := Option.isSome_iff_exists.1 (show Tryz.f277.body.isSome = true from rfl)
  simp [callFunc, Tryz.func277, hc, show Tryz.f277.name = "(*gocqlframes/pub/gocql.writeStartupFrame).buildFrame" from rfl]
set_option maxHeartbeats 1000000 in
theorem zz_options (w : World) (p s : Int)  (hp : p = 3 ∨ p = 4) :
    Calls Tryz.prog 43 #[.int .u8 p, .int .i64 s] w fun e w' => ∃ v, e = .returned (.tuple #[v, .nilIface]) ∧ Out w w' v (frame p 5 s []) := by
  have hb0 : Below w.heap.size w (w.alloc (.cells #[] 177)) := below_alloc (Below.refl _ _) _
  have hn0 := heap_alloc_new w (.cells #[] 177)
  have HB := Lib.hid hb0
  have HN := Lib.hid hn0
  clear hb0 hn0
  go_enter Tryz.func43, Tryz.ntmps43
  go_wp2_with fail
  refine (zzBuild_any _ p s _ 304 w.heap.size (frame p 5 s []) hp (m304 _) g304 (fun F w1 hF => b_options _ F p s _ w1 hp hF)).mono ?_
  rintro e w2 ⟨v, rfl, hO⟩
  go_wp2_with fail
  go_ret2
  exact ⟨v, rfl, hO.lower HB.out⟩
set_option maxHeartbeats 1000000 in
theorem zz_auth (w : World) (p s : Int) (ad : Addr) (c : Nat) (l : List Int) (hl : l.length ≤ 100) (hr : ReadsInt w .u8 (some ad) l.length l) (hp : p = 3 ∨ p = 4) :
    Calls Tryz.prog 51 #[.int .u8 p, .int .i64 s, .slice (some ad) l.length c] w fun e w' => ∃ v, e = .returned (.tuple #[v, .nilIface]) ∧ Out w w' v (frame p 15 s (be 4 l.length ++ l)) := by
  have HR := Lib.hid hr
  clear hr
  have hb0 : Below w.heap.size w (w.alloc (.cells #[.slice (some ad) l.length c] 206)) := below_alloc (Below.refl _ _) _
  have hn0 := heap_alloc_new w (.cells #[.slice (some ad) l.length c] 206)
  have HB := Lib.hid hb0
  have HN := Lib.hid hn0
  clear hb0 hn0
  go_enter Tryz.func51, Tryz.ntmps51
  go_wp2_with fail
  refine (zzBuild_any _ p s _ 332 w.heap.size (frame p 15 s (be 4 l.length ++ l)) hp (m332 _) g332 (fun F w1 hF => b_auth _ F _ p s ad _ c l w1 hp hF rfl hl (HR.out.below HB.out) ((cell_of_row _ _ 0 _ _ _ HN.out).trans rfl))).mono ?_
  rintro e w2 ⟨v, rfl, hO⟩
  go_wp2_with fail
  go_ret2
  exact ⟨v, rfl, hO.lower HB.out⟩
set_option maxHeartbeats 1000000 in
theorem zz_register (w : World) (p s : Int) (xs : List ByteArray) (A : Option Addr) (c : Nat) (hN : xs.length ≤ 10) (hok : ∀ x ∈ xs, x.size ≤ 100) (hR : StrRow w A xs) (hp : p = 3 ∨ p = 4) :
    Calls Tryz.prog 47 #[.int .u8 p, .int .i64 s, .slice A xs.length c] w fun e w' => ∃ v, e = .returned (.tuple #[v, .nilIface]) ∧ Out w w' v (frame p 11 s (be 2 xs.length ++ xs.flatMap sbytes)) := by
  have HR := Lib.hid hR
  have Hok := Lib.hid hok
  clear hR hok
  have hb0 : Below w.heap.size w (w.alloc (.cells #[.slice A xs.length c] 194)) := below_alloc (Below.refl _ _) _
  have hn0 := heap_alloc_new w (.cells #[.slice A xs.length c] 194)
  have HB := Lib.hid hb0
  have HN := Lib.hid hn0
  clear hb0 hn0
  go_enter Tryz.func47, Tryz.ntmps47
  go_wp2_with fail
  refine (zzBuild_any _ p s _ 327 w.heap.size (frame p 11 s (be 2 xs.length ++ xs.flatMap sbytes)) hp (m327 _) g327 (fun F w1 hF => b_register _ F _ p s xs A c w1 hp hF hN Hok.out (HR.out.below_ HB.out) ((cell_of_row _ _ 0 _ _ _ HN.out).trans rfl))).mono ?_
  rintro e w2 ⟨v, rfl, hO⟩
  go_wp2_with fail
  go_ret2
  exact ⟨v, rfl, hO.lower HB.out⟩
set_option maxHeartbeats 1000000 in
theorem zz_prepare (w : World) (p s : Int) (st : ByteArray) (hs : st.size ≤ 100) (hp : p = 3 ∨ p = 4) :
    Calls Tryz.prog 45 #[.int .u8 p, .int .i64 s, .string st, .string ⟨#[]⟩, .map none] w fun e w' => ∃ v, e = .returned (.tuple #[v, .nilIface]) ∧ Out w w' v (frame p 9 s (be 4 st.size ++ bytesOf st)) := by
  have hb0 : Below w.heap.size w (w.alloc (.cells #[.string st, .string ⟨#[]⟩, .map none] 188)) := below_alloc (Below.refl _ _) _
  have hn0 := heap_alloc_new w (.cells #[.string st, .string ⟨#[]⟩, .map none] 188)
  have HB := Lib.hid hb0
  have HN := Lib.hid hn0
  clear hb0 hn0
  go_enter Tryz.func45, Tryz.ntmps45
  go_wp2_with fail
  refine (zzBuild_any _ p s _ 323 w.heap.size (frame p 9 s (be 4 st.size ++ bytesOf st)) hp (m323 _) g323 (fun F w1 hF => prepare_any _ F _ p s st w1 hp hF hs ((cell_of_row _ _ 0 _ _ _ HN.out).trans rfl) ((cell_of_row _ _ 1 _ _ _ HN.out).trans rfl) ((cell_of_row _ _ 2 _ _ _ HN.out).trans rfl))).mono ?_
  rintro e w2 ⟨v, rfl, hO⟩
  go_wp2_with fail
  go_ret2
  exact ⟨v, rfl, hO.lower HB.out⟩
theorem info280 : (Tryz.prog.info? 280).map (fun i => (i.zero, i.size, i.bytes)) = some (some (.agg #[.slice none 0 0, .string ⟨#[]⟩, .bool false]), 3, 48) := by kernel_rfl
theorem info268 : (Tryz.prog.info? 268).map (fun i => (i.zero, i.size, i.bytes)) = some (some (.agg #[.string ⟨#[]⟩, .slice none 0 0, .bool false]), 3, 48) := by kernel_rfl
/-- A bound value, its bytes wherever they lie. -/
structure RV where
  A : Option Addr
  m : Nat
  c : Nat
  name : ByteArray
  unset : Bool
abbrev RV.v (r : RV) : Value := .slice r.A r.m r.c
def RV.q (r : RV) : List Value := [r.v, .string r.name, .bool r.unset]
def RV.z (r : RV) : List Value := [.string r.name, r.v, .bool r.unset]
/-- Such values in a row, as ZZValue has them. -/
def ZRow (w : World) (A : Option Addr) (rs : List RV) : Prop := 0 < rs.length → ∃ g, A = some ⟨g, 0, none⟩ ∧ ∀ i r, rs[i]? = some r → w.cell? ⟨g, i * 3, none⟩ = some (.string r.name) ∧ w.cell? ⟨g, i * 3 + 1, none⟩ = some r.v ∧ w.cell? ⟨g, i * 3 + 2, none⟩ = some (.bool r.unset)
theorem flat_snoc' {α β : Type} (f : α → List β) (l : List α) (i : Nat) (x : α) (h : l[i]? = some x) : (l.take (i + 1)).flatMap f = (l.take i).flatMap f ++ f x := by
  obtain ⟨hi, rfl⟩ := List.getElem?_eq_some_iff.1 h
  rw [List.take_succ_eq_append_getElem hi, List.flatMap_append]
  simp
theorem heap_alloc_new2 (w : World) (o o' : Obj) : ((w.alloc o).alloc o').heap[w.heap.size + 1]? = some o' := by
  have := heap_alloc_new (w.alloc o) o'
  rwa [show (w.alloc o).heap.size = w.heap.size + 1 by simp] at this
/-- append(v, x): one element of some cells, from a block of its own. -/
theorem ap_one {W : World} {base : Nat} (t ty e k bytes : Nat) (z : Value) (ht : Tryz.prog.underlying t = some (.slice e)) (hinfo : (Tryz.prog.info? e).map (fun i => (i.zero, i.size, i.bytes)) = some (some z, k, bytes)) (hzs : z.cells.size = k) (hk : 0 < k) (hby : bytes ≤ 1000)
    (v : Value) (n : Nat) (xs : List Value) (B c : Nat) {fr : Nat × Nat} {cells : Array Value} (HO : W.ownsRow base e k v n xs) (hB : W.heap[B]? = some (.cells cells e fr)) (hcs : cells.size = k) (h1 : ∀ u ∈ cells.toList, u.oneCell' = true) (hn : n ≤ 1000) (hbase : base ≤ W.heap.size) :
    ∃ v1 w1, (Builtin.append_ #[t, t] ty #[v, .slice (some ⟨B, 0, none⟩) 1 c]).run Tryz.prog W = .ok v1 w1 ∧ (w1.ownsRow base e k v1 (n + 1) (xs ++ cells.toList) ∧ W.grownBy w1 v.ownBlock) := by
  obtain ⟨i0, hi, hz0, hz1, hz2⟩ := info_parts hinfo
  obtain ⟨v1, w1, hr, h2, h3, _⟩ := run_append_own_at (P := Tryz.prog) W base t ty e i0 z k bytes ht hi hz0 hz1 hz2 hzs hk v n xs HO ⟨B, 0, none⟩ 1 c cells.toList (by simp [hcs]) (by
    intro j u hu
    rw [add_plain, cell_of_row W B j _ _ _ hB]
    simpa using hu) h1 (by simp only [maxLen]; omega) (by
      have : (n + 1) * bytes ≤ 1001 * 1000 := Nat.mul_le_mul (by omega) hby
      omega) hbase
  exact ⟨v1, w1, hr, h2, h3⟩
theorem zzValues_any (w : World) (A : Option Addr) (c : Nat) (rs : List RV) (hN : rs.length ≤ 20) (hR : ZRow w A rs) :
    Calls Tryz.prog 84 #[.slice A rs.length c] w fun e w' => ∃ v, e = .returned v ∧ Below w.heap.size w w' ∧ w'.ownsRow w.heap.size 280 3 v rs.length (rs.flatMap RV.q) := by
  have HR := Lib.hid hR
  clear hR
  go_enter Tryz.func84, Tryz.ntmps84
  go_wp2_with fail
  go_loopw [3, 8] (fun v3 v8 W => ∃ i : Nat, v8 = .int .i64 i ∧ i ≤ rs.length ∧ Hid (Below w.heap.size w W ∧ W.ownsRow w.heap.size 280 3 v3 i ((rs.take i).flatMap RV.q))) (fun _ v8 _ => rs.length - (intOf v8).toNat)
  case atStart => exact ⟨0, rfl, by omega, Lib.hid ⟨Below.refl _ _, by simp, .inl ⟨rfl, rfl⟩⟩⟩
  case round =>
    obtain ⟨i, rfl, hi, HW2⟩ := hrel
    by_cases hlt : i < rs.length
    · have hx : rs[i]? = some rs[i] := List.getElem?_eq_getElem hlt
      obtain ⟨gq, rfl, hrow⟩ := HR.out (by omega)
      obtain ⟨kn, kv, ku⟩ := hrow i _ hx
      generalize rs[i] = r at *
      have kn' := (HW2.out.1.cell (World.block_lt_of_cell? w _ kn)).trans kn
      have kv' := (HW2.out.1.cell (World.block_lt_of_cell? w _ kv)).trans kv
      have ku' := (HW2.out.1.cell (World.block_lt_of_cell? w _ ku)).trans ku
      clear kn kv ku hrow
      have HX := Lib.hid hx
      clear hx
      have ho := HW2.out.2
      have hb := HW2.out.1
      have hsz := hb.size
      generalize hxs : (rs.take i).flatMap RV.q = xs at *
      have HXS := Lib.hid hxs
      clear hxs
      have hoo := Lib.hid ho
      have hbb := Lib.hid hb
      clear ho hb
      go_wp2_with (at_builtin; refine app_list rfl (.tmp 12) (.tmp 20) 180 180 rfl u3 _ rfl rfl (ap_one 180 _ 280 3 48 _ Tryz.underlying180 info280 rfl (by omega) (by omega) u3 i xs (wr.heap.size + 1) 1 ((hoo.out.alloc _).alloc _) (heap_alloc_new2 _ _ _) rfl (by simp [Value.oneCell']) (by omega) (by simp; omega)) ?_; rintro v1 w1 ⟨hown, hgrow⟩)
      go_roundw
      case rel =>
        refine ⟨i + 1, by go_num, by omega, Lib.hid ⟨?_, ?_⟩⟩
        · exact pw_below_grown ((hbb.out.alloc hsz _).alloc (by simp; omega) _) _ (by simp; omega) hgrow (fun k hk => own_base hoo.out k hk)
        · rw [flat_snoc' RV.q rs i r HX.out, HXS.out]
          exact hown
      case measure => simp [intOf]; omega
    · go_wp2
      go_ret
      have hii : i = rs.length := by omega
      have h3 := HW2.out
      rw [hii, List.take_length] at h3
      exact ⟨_, rfl, h3.1, h3.2⟩
theorem ZRow.below_ {w w1 : World} {A : Option Addr} {rs : List RV} (h : ZRow w A rs) (hb : Below w.heap.size w w1) : ZRow w1 A rs := by
  intro h0
  obtain ⟨g, hA, hc⟩ := h h0
  exact ⟨g, hA, fun i x hx => ⟨pw_cell_below hb (hc i x hx).1, pw_cell_below hb (hc i x hx).2.1, pw_cell_below hb (hc i x hx).2.2⟩⟩
/-- Many stores into one block. -/
def setL (w : World) (B : Nat) : Nat → List Value → World
  | _, [] => w
  | i, x :: xs => setL (w.setCell ⟨B, i, none⟩ x) B (i + 1) xs
theorem setL_below {k B : Nat} {a : World} (hB : k ≤ B) : ∀ (xs : List Value) (w : World) (i : Nat), Below k a w → Below k a (setL w B i xs)
  | [], _, _, h => h
  | x :: xs, w, i, h => setL_below hB xs _ _ (h.setCell hB x)
theorem setL_own {B base e size n : Nat} {v : Value} {cs : List Value} (hne : some B ≠ v.ownBlock) : ∀ (xs : List Value) (w : World) (i : Nat), w.ownsRow base e size v n cs → (setL w B i xs).ownsRow base e size v n cs
  | [], _, _, h => h
  | x :: xs, w, i, h => setL_own hne xs _ _ (own_setCell h hne x)
def setC (cs : Array Value) : Nat → List Value → Array Value
  | _, [] => cs
  | i, x :: xs => setC (cs.setIfInBounds i x) (i + 1) xs
theorem setL_at {B t : Nat} : ∀ (xs : List Value) (w : World) (i : Nat) (cs : Array Value), w.heap[B]? = some (.cells cs t (0, 0)) → (setL w B i xs).heap[B]? = some (.cells (setC cs i xs) t (0, 0))
  | [], _, _, _, h => h
  | x :: xs, w, i, cs, h => setL_at xs _ _ _ (blk_set h i x)
theorem setL_far {B g : Nat} {o : Obj} (hne : g ≠ B) : ∀ (xs : List Value) (w : World) (i : Nat), w.heap[g]? = some o → (setL w B i xs).heap[g]? = some o
  | [], _, _, h => h
  | x :: xs, w, i, h => setL_far hne xs _ _ ((Below.heap_setCell w ⟨B, i, none⟩ x g hne).trans h)
/-- The parameters of a query as values: of the ZZ type and of the package's own. -/
abbrev pAgg (q : QP) (A : Option Addr) (n c : Nat) (A4 : Option Addr) (c4 : Nat) : Array Value := #[.int .u16 q.cons, .bool q.skip, .slice A n c, .int .i64 q.page, .slice A4 q.paging.length c4, .int .u16 q.serial, .bool q.hasT, .int .i64 q.t, .string ⟨#[]⟩]
theorem zzParams_any (w : World) (q : QP) (A A4 : Option Addr) (c c4 : Nat) (rs : List RV) (hN : rs.length ≤ 20) (hR : ZRow w A rs) :
    Calls Tryz.prog 83 #[.agg (pAgg q A rs.length c A4 c4)] w fun e w' => ∃ A' c', e = .returned (.agg (pAgg q A' rs.length c' A4 c4)) ∧ Below w.heap.size w w' ∧ w'.ownsRow w.heap.size 280 3 (.slice A' rs.length c') rs.length (rs.flatMap RV.q) := by
  have HR := Lib.hid hR
  clear hR
  go_enter Tryz.func83, Tryz.ntmps83
  go_upto_region 1 with (fail)
  have HB := Lib.hid (below_alloc (below_alloc (Below.refl w.heap.size w) (Obj.cells (pAgg q A rs.length c A4 c4) 108)) (Obj.cells #[Value.int IntKind.u16 0, Value.bool false, Value.slice none 0 0, Value.int IntKind.i64 0, Value.slice none 0 0, Value.int IntKind.u16 0, Value.bool false, Value.int IntKind.i64 0, Value.string { data := #[] }] 182))
  have HN := Lib.hid (blk_alloc (heap_alloc_new w (Obj.cells (pAgg q A rs.length c A4 c4) 108)) (Obj.cells #[Value.int IntKind.u16 0, Value.bool false, Value.slice none 0 0, Value.int IntKind.i64 0, Value.slice none 0 0, Value.int IntKind.u16 0, Value.bool false, Value.int IntKind.i64 0, Value.string { data := #[] }] 182))
  have HN2 := Lib.hid (heap_alloc_new2 w (Obj.cells (pAgg q A rs.length c A4 c4) 108) (Obj.cells #[Value.int IntKind.u16 0, Value.bool false, Value.slice none 0 0, Value.int IntKind.i64 0, Value.slice none 0 0, Value.int IntKind.u16 0, Value.bool false, Value.int IntKind.i64 0, Value.string { data := #[] }] 182))
  generalize (w.alloc _).alloc _ = w0 at *
  refine start_ (n := 21) (S := fun w' => w'.cell? ⟨w.heap.size, 0, none⟩ = some (.int .u16 q.cons) ∧ w'.cell? ⟨w.heap.size, 1, none⟩ = some (.bool q.skip) ∧ w'.cell? ⟨w.heap.size, 2, none⟩ = some (.slice A rs.length c) ∧ w'.cell? ⟨w.heap.size, 3, none⟩ = some (.int .i64 q.page) ∧ w'.cell? ⟨w.heap.size, 4, none⟩ = some (.slice A4 q.paging.length c4) ∧ w'.cell? ⟨w.heap.size, 5, none⟩ = some (.int .u16 q.serial) ∧ w'.cell? ⟨w.heap.size, 6, none⟩ = some (.bool q.hasT) ∧ w'.cell? ⟨w.heap.size, 7, none⟩ = some (.int .i64 q.t) ∧ w'.cell? ⟨w.heap.size, 8, none⟩ = some (.string ⟨#[]⟩)) (ds := [20]) #[false, false, false, false, false, false, false, false, false, false, false, false, false, false, false, false, false, false, false, false, false] (by kernel_rfl) rfl rfl ⟨((cell_of_row _ _ 0 _ _ _ HN.out).trans rfl), ((cell_of_row _ _ 1 _ _ _ HN.out).trans rfl), ((cell_of_row _ _ 2 _ _ _ HN.out).trans rfl), ((cell_of_row _ _ 3 _ _ _ HN.out).trans rfl), ((cell_of_row _ _ 4 _ _ _ HN.out).trans rfl), ((cell_of_row _ _ 5 _ _ _ HN.out).trans rfl), ((cell_of_row _ _ 6 _ _ _ HN.out).trans rfl), ((cell_of_row _ _ 7 _ _ _ HN.out).trans rfl), ((cell_of_row _ _ 8 _ _ _ HN.out).trans rfl)⟩ (fun hHeld => ?_)
  refine e_o 0 ?_
  refine e_o 2 ?_
  refine e_o 4 ?_
  refine e_o 7 ?_
  refine e_o 9 ?_
  refine e_o 11 ?_
  refine e_o 13 ?_
  refine e_o 15 ?_
  refine e_o 17 ?_
  refine e_t 1 hHeld ?_
  refine e_t 3 hHeld ?_
  refine e_t 5 hHeld ?_
  refine e_t 8 hHeld ?_
  refine e_t 10 hHeld ?_
  refine e_t 12 hHeld ?_
  refine e_t 14 hHeld ?_
  refine e_t 16 hHeld ?_
  refine e_t 18 hHeld ?_
  refine one_ (i := 6) (N := some 9) #[true, true, true, true, true, true, true, true, true, true, true, true, true, true, true, true, true, true, true, false, false] rfl rfl (by kernel_rfl) (by decide) (fun K hK => ?_)
  refine goes_ Tryz.func84 (by kernel_rfl) rfl #[.slice A rs.length c] (by rfl) rfl rfl (by simp only [List.map_toArray, List.map_cons, List.map_nil]; rfl) ?_
  with_reducible refine (zzValues_any _ A c rs hN (HR.out.below_ HB.out.drew)).mono ?_
  rintro e w3 ⟨v, rfl, hb3, hown⟩
  refine ⟨_, rfl, ?_⟩
  have HN3 := Lib.hid (blk_below (blk_drew HN.out) hb3)
  have HN4 := Lib.hid (blk_below (blk_drew HN2.out) hb3)
  obtain ⟨B5, m5, c5, rfl⟩ := own_form hown
  have hq0 : w3.cell? ⟨w.heap.size + 1, 0, none⟩ = some (.int .u16 0) := (cell_of_row _ _ 0 _ _ _ HN4.out).trans rfl
  have hq1 : w3.cell? ⟨w.heap.size + 1, 1, none⟩ = some (.bool false) := (cell_of_row _ _ 1 _ _ _ HN4.out).trans rfl
  have hq2 : w3.cell? ⟨w.heap.size + 1, 2, none⟩ = some (.slice none 0 0) := (cell_of_row _ _ 2 _ _ _ HN4.out).trans rfl
  have hq3 : w3.cell? ⟨w.heap.size + 1, 3, none⟩ = some (.int .i64 0) := (cell_of_row _ _ 3 _ _ _ HN4.out).trans rfl
  have hq4 : w3.cell? ⟨w.heap.size + 1, 4, none⟩ = some (.slice none 0 0) := (cell_of_row _ _ 4 _ _ _ HN4.out).trans rfl
  have hq5 : w3.cell? ⟨w.heap.size + 1, 5, none⟩ = some (.int .u16 0) := (cell_of_row _ _ 5 _ _ _ HN4.out).trans rfl
  have hq6 : w3.cell? ⟨w.heap.size + 1, 6, none⟩ = some (.bool false) := (cell_of_row _ _ 6 _ _ _ HN4.out).trans rfl
  have hq7 : w3.cell? ⟨w.heap.size + 1, 7, none⟩ = some (.int .i64 0) := (cell_of_row _ _ 7 _ _ _ HN4.out).trans rfl
  have hq8 : w3.cell? ⟨w.heap.size + 1, 8, none⟩ = some (.string ⟨#[]⟩) := (cell_of_row _ _ 8 _ _ _ HN4.out).trans rfl
  have hfz : ∀ i, w3.frozen? ⟨w.heap.size + 1, i, none⟩ = false := fun i => blk_froz HN4.out
  refine hK.out _ _ ⟨((cell_of_row _ _ 0 _ _ _ HN3.out).trans rfl), ((cell_of_row _ _ 1 _ _ _ HN3.out).trans rfl), ((cell_of_row _ _ 2 _ _ _ HN3.out).trans rfl), ((cell_of_row _ _ 3 _ _ _ HN3.out).trans rfl), ((cell_of_row _ _ 4 _ _ _ HN3.out).trans rfl), ((cell_of_row _ _ 5 _ _ _ HN3.out).trans rfl), ((cell_of_row _ _ 6 _ _ _ HN3.out).trans rfl), ((cell_of_row _ _ 7 _ _ _ HN3.out).trans rfl), ((cell_of_row _ _ 8 _ _ _ HN3.out).trans rfl)⟩ (fun hHeld => ?_)
  clear hK K
  refine norm_ (a' := ?_) ?_ ?_
  rotate_left
  · show Act.put _ (some 9) _ = _
    simp only [Act.put, List.setIfInBounds_toArray, List.set_cons_zero, List.set_cons_succ, i64_w, i32_w]
    rfl
  refine e_o 19 ?_
  refine last_ (i := 20) (N := none) #[true, true, true, true, true, true, true, true, true, true, true, true, true, true, true, true, true, true, true, true, true] rfl rfl (by kernel_rfl) (by decide) (fun K hK => ?_)
  refine skip_ (w1 := ?_) (by rfl) rfl ?_ ?_
  rotate_left
  · go_simp
    rfl
  refine hK.out _ _ ?_
  clear hK K
  refine done_ (by kernel_rfl) ?_
  go_wp2
  obtain ⟨W, hW⟩ : ∃ W, W = setL w3 (w.heap.size + 1) 0 [.int .u16 q.cons, .bool q.skip, .slice B5 m5 c5, .int .i64 q.page, .slice A4 q.paging.length c4, .int .u16 q.serial, .bool q.hasT, .int .i64 q.t, .string ⟨#[]⟩] := ⟨_, rfl⟩
  have hW' := hW
  simp only [setL, Nat.zero_add, Nat.reduceAdd] at hW'
  rw [← hW']
  clear hW'
  have hS := setL_at [.int .u16 q.cons, .bool q.skip, .slice B5 m5 c5, .int .i64 q.page, .slice A4 q.paging.length c4, .int .u16 q.serial, .bool q.hasT, .int .i64 q.t, .string ⟨#[]⟩] w3 0 _ HN4.out
  rw [← hW] at hS
  have hm5 : m5 = rs.length := by
    rcases hown.2 with ⟨h, h0⟩ | ⟨_, _, _, h, _⟩
    · cases h; exact h0.symm
    · cases h; rfl
  subst hm5
  have hS2 : W.heap[w.heap.size + 1]? = some (.cells (pAgg q B5 rs.length c5 A4 c4) 182 (0, 0)) := by
    rw [hS]
    simp only [setC, Nat.zero_add, Nat.reduceAdd, pAgg, List.setIfInBounds_toArray, List.set_cons_zero, List.set_cons_succ]
  clear hS
  have hRun := results_cell_row (P := Tryz.prog) (fn := Tryz.f83) (p := 2) (ty := 182) rfl
  refine bodyPost_ret (hRun _ W (w.heap.size + 1) 182 _ _ _ rfl hS2 Tryz.underlying182 rfl (by kernel_rfl)) rfl ⟨B5, c5, rfl, ?_, ?_⟩
  · rw [hW]; exact setL_below (by omega) _ _ _ (below_then HB.out.drew HB.out.size hb3)
  · rw [hW]; exact setL_own (own_ne hown HN4.out (by decide)) _ _ _ (own_lower hown HB.out.size)
theorem flat_at {α β : Type} (f : α → List β) (k : Nat) (hk : ∀ x, (f x).length = k) : ∀ (l : List α) (i : Nat) (x : α) (j : Nat), l[i]? = some x → j < k → (l.flatMap f)[i * k + j]? = (f x)[j]?
  | [], i, x, j, h, _ => by simp at h
  | y :: l, 0, x, j, h, hj => by
    obtain rfl : y = x := by simpa using h
    rw [List.flatMap_cons, Nat.zero_mul, Nat.zero_add, List.getElem?_append_left (by rw [hk]; exact hj)]
  | y :: l, i + 1, x, j, h, hj => by
    have h' : l[i]? = some x := by simpa using h
    rw [List.flatMap_cons, List.getElem?_append_right (by rw [hk, Nat.add_mul]; omega), hk, ← flat_at f k hk l i x j h' hj]
    congr 1
    rw [Nat.add_mul]; omega
/-- The cells of a row that is owned. -/
theorem own_cells {w : World} {base e size n c m : Nat} {A : Option Addr} {xs : List Value} (h : w.ownsRow base e size (.slice A m c) n xs) (hn : 0 < n) : m = n ∧ ∃ g, A = some ⟨g, 0, none⟩ ∧ base ≤ g ∧ ∀ i u, xs[i]? = some u → w.cell? ⟨g, i, none⟩ = some u := by
  rcases h.2 with ⟨_, h0⟩ | ⟨g, cap, cur, hv, hb, hg, hnc, _, hsz, ht⟩
  · omega
  · cases hv
    refine ⟨rfl, g, rfl, hb, fun i u hu => ?_⟩
    rw [cell_of_row w g i _ _ _ hg, ← Array.getElem?_toList]
    rw [← ht, List.getElem?_take] at hu
    split at hu
    · exact hu
    · cases hu
theorem DatR.below_ {w w1 : World} {v : Value} : ∀ {o : Option (List Int)}, DatR w v o → Below w.heap.size w w1 → DatR w1 v o
  | none, h, _ => h
  | some _, ⟨ad, c, hv, hr⟩, hb => ⟨ad, c, hv, hr.below hb⟩
/-- The row's values are these. -/
def RQ (w : World) (rs : List RV) (xs : List QV) : Prop := rs.length = xs.length ∧ ∀ (i : Nat) (r : RV) (x : QV), rs[i]? = some r → xs[i]? = some x → r.name = x.name ∧ r.unset = x.unset ∧ DatR w r.v x.value
theorem RQ.below_ {w w1 : World} {rs : List RV} {xs : List QV} (h : RQ w rs xs) (hb : Below w.heap.size w w1) : RQ w1 rs xs := ⟨h.1, fun i r x h1 h2 => ⟨(h.2 i r x h1 h2).1, (h.2 i r x h1 h2).2.1, (h.2 i r x h1 h2).2.2.below_ hb⟩⟩
theorem qrow_of {w : World} {base c m : Nat} {A : Option Addr} {rs : List RV} {xs : List QV} (h : w.ownsRow base 280 3 (.slice A m c) rs.length (rs.flatMap RV.q)) (hq : RQ w rs xs) : QRow w A xs := by
  intro h0
  obtain ⟨_, g, hA, _, hc⟩ := own_cells h (by rw [hq.1]; exact h0)
  refine ⟨g, hA, fun i x hx => ?_⟩
  have hi : i < rs.length := by rw [hq.1]; exact (List.getElem?_eq_some_iff.1 hx).1
  have hr : rs[i]? = some rs[i] := List.getElem?_eq_getElem hi
  obtain ⟨h1, h2, h3⟩ := hq.2 i _ x hr hx
  have hf := fun j (hj : j < 3) => flat_at RV.q 3 (fun _ => rfl) rs i _ j hr hj
  refine ⟨_, h3, ?_, ?_, ?_⟩
  · exact hc _ _ ((hf 0 (by omega)).trans rfl)
  · rw [← h1]; exact hc _ _ ((hf 1 (by omega)).trans rfl)
  · rw [← h2]; exact hc _ _ ((hf 2 (by omega)).trans rfl)
theorem zz_query (w : World) (p s : Int) (st : ByteArray) (hs : st.size ≤ 100) (q : QP) (A A4 : Option Addr) (c c4 : Nat) (rs : List RV) (hp : p = 3 ∨ p = 4) (hq : q.ok) (hR : ZRow w A rs) (hRQ : RQ w rs q.vals) (hP : ReadsInt w .u8 A4 q.paging.length q.paging) :
    Calls Tryz.prog 44 #[.int .u8 p, .int .i64 s, .string st, .agg (pAgg q A rs.length c A4 c4), .map none] w fun e w' => ∃ v, e = .returned (.tuple #[v, .nilIface]) ∧ Out w w' v (frame p 7 s (be 4 st.size ++ bytesOf st ++ qbytes q)) := by
  have HB := Lib.hid (below_alloc (Below.refl w.heap.size w) (.cells (pAgg q A rs.length c A4 c4) 108))
  have hN := heap_alloc_new w (.cells (pAgg q A rs.length c A4 c4) 108)
  have hN20 : rs.length ≤ 20 := by rw [hRQ.1]; exact hq.1
  have HQ : Hid (q.ok ∧ ZRow w A rs ∧ RQ w rs q.vals ∧ ReadsInt w .u8 A4 q.paging.length q.paging) := ⟨hq, hR, hRQ, hP⟩
  clear hq hR hRQ hP hN
  go_enter Tryz.func44, Tryz.ntmps44
  go_wp2_with (go_at_call 83; refine (zzParams_any _ q A A4 c c4 rs hN20 (HQ.out.2.1.below_ HB.out)).mono ?_; rintro e w1 ⟨A', c', rfl, hb, hown⟩)
  have HB1 := Lib.hid (below_then HB.out HB.out.size hb)
  have HO1 := Lib.hid hown
  have hb2 := below_alloc (Below.refl w1.heap.size w1) (.cells #[.string st, .int .u16 q.cons, .bool q.skip, .slice A' rs.length c', .int .i64 q.page, .slice A4 q.paging.length c4, .int .u16 q.serial, .bool q.hasT, .int .i64 q.t, .string ⟨#[]⟩, .map none] 185)
  have HN := Lib.hid (heap_alloc_new w1 (.cells #[.string st, .int .u16 q.cons, .bool q.skip, .slice A' rs.length c', .int .i64 q.page, .slice A4 q.paging.length c4, .int .u16 q.serial, .bool q.hasT, .int .i64 q.t, .string ⟨#[]⟩, .map none] 185))
  have HO2 := Lib.hid (pw_own_below hown hb2)
  have HB2 := Lib.hid (below_then HB1.out HB1.out.size hb2)
  have HC : Hid (q.vals.length = rs.length) := HQ.out.2.2.1.1.symm
  clear hb hown hb2
  refine (zzBuild_any _ p s _ 306 w1.heap.size (frame p 7 s (be 4 st.size ++ bytesOf st ++ qbytes q)) hp (m306 _) g306 (fun F w2 hF => ?_)).mono ?_
  · refine b_query _ F _ p s st q A' A4 c' c4 w2 hp hF hs HQ.out.1 ⟨((cell_of_row _ _ 1 _ _ _ HN.out).trans rfl), ((cell_of_row _ _ 2 _ _ _ HN.out).trans rfl), by rw [HC.out]; exact ((cell_of_row _ _ 3 _ _ _ HN.out).trans rfl), ((cell_of_row _ _ 4 _ _ _ HN.out).trans rfl), ((cell_of_row _ _ 5 _ _ _ HN.out).trans rfl), ((cell_of_row _ _ 6 _ _ _ HN.out).trans rfl), ((cell_of_row _ _ 7 _ _ _ HN.out).trans rfl), ((cell_of_row _ _ 8 _ _ _ HN.out).trans rfl), ((cell_of_row _ _ 9 _ _ _ HN.out).trans rfl)⟩ (qrow_of HO2.out (HQ.out.2.2.1.below_ HB2.out)) (HQ.out.2.2.2.below HB2.out) ((cell_of_row _ _ 0 _ _ _ HN.out).trans rfl) ((cell_of_row _ _ 10 _ _ _ HN.out).trans rfl)
  rintro e w3 ⟨v, rfl, hO⟩
  go_wp2_with fail
  go_ret2
  exact ⟨v, rfl, hO.lower HB2.out⟩
theorem zz_execute (w : World) (p s : Int) (id : List Int) (Ai : Option Addr) (ci : Nat) (hs : id.length ≤ 100) (hid : ReadsInt w .u8 Ai id.length id) (q : QP) (A A4 : Option Addr) (c c4 : Nat) (rs : List RV) (hp : p = 3 ∨ p = 4) (hq : q.ok) (hR : ZRow w A rs) (hRQ : RQ w rs q.vals) (hP : ReadsInt w .u8 A4 q.paging.length q.paging) :
    Calls Tryz.prog 46 #[.int .u8 p, .int .i64 s, .slice Ai id.length ci, .agg (pAgg q A rs.length c A4 c4), .map none] w fun e w' => ∃ v, e = .returned (.tuple #[v, .nilIface]) ∧ Out w w' v (frame p 10 s (be 2 id.length ++ id ++ qbytes q)) := by
  have HB := Lib.hid (below_alloc (Below.refl w.heap.size w) (.cells (pAgg q A rs.length c A4 c4) 108))
  have hN := heap_alloc_new w (.cells (pAgg q A rs.length c A4 c4) 108)
  have hN20 : rs.length ≤ 20 := by rw [hRQ.1]; exact hq.1
  have HQ : Hid (q.ok ∧ ZRow w A rs ∧ RQ w rs q.vals ∧ ReadsInt w .u8 A4 q.paging.length q.paging) := ⟨hq, hR, hRQ, hP⟩
  clear hq hR hRQ hP hN
  have HI := Lib.hid hid
  clear hid
  go_enter Tryz.func46, Tryz.ntmps46
  go_wp2_with (go_at_call 83; refine (zzParams_any _ q A A4 c c4 rs hN20 (HQ.out.2.1.below_ HB.out)).mono ?_; rintro e w1 ⟨A', c', rfl, hb, hown⟩)
  have HB1 := Lib.hid (below_then HB.out HB.out.size hb)
  have HO1 := Lib.hid hown
  have hb2 := below_alloc (Below.refl w1.heap.size w1) (.cells #[.slice Ai id.length ci, .int .u16 q.cons, .bool q.skip, .slice A' rs.length c', .int .i64 q.page, .slice A4 q.paging.length c4, .int .u16 q.serial, .bool q.hasT, .int .i64 q.t, .string ⟨#[]⟩, .map none] 191)
  have HN := Lib.hid (heap_alloc_new w1 (.cells #[.slice Ai id.length ci, .int .u16 q.cons, .bool q.skip, .slice A' rs.length c', .int .i64 q.page, .slice A4 q.paging.length c4, .int .u16 q.serial, .bool q.hasT, .int .i64 q.t, .string ⟨#[]⟩, .map none] 191))
  have HO2 := Lib.hid (pw_own_below hown hb2)
  have HB2 := Lib.hid (below_then HB1.out HB1.out.size hb2)
  have HC : Hid (q.vals.length = rs.length) := HQ.out.2.2.1.1.symm
  clear hb hown hb2
  refine (zzBuild_any _ p s _ 324 w1.heap.size (frame p 10 s (be 2 id.length ++ id ++ qbytes q)) hp (m324 _) g324 (fun F w2 hF => ?_)).mono ?_
  · refine b_execute _ F _ p s id Ai ci q A' A4 c' c4 w2 hp hF hs HQ.out.1 ⟨((cell_of_row _ _ 1 _ _ _ HN.out).trans rfl), ((cell_of_row _ _ 2 _ _ _ HN.out).trans rfl), by rw [HC.out]; exact ((cell_of_row _ _ 3 _ _ _ HN.out).trans rfl), ((cell_of_row _ _ 4 _ _ _ HN.out).trans rfl), ((cell_of_row _ _ 5 _ _ _ HN.out).trans rfl), ((cell_of_row _ _ 6 _ _ _ HN.out).trans rfl), ((cell_of_row _ _ 7 _ _ _ HN.out).trans rfl), ((cell_of_row _ _ 8 _ _ _ HN.out).trans rfl), ((cell_of_row _ _ 9 _ _ _ HN.out).trans rfl)⟩ (qrow_of HO2.out (HQ.out.2.2.1.below_ HB2.out)) (HQ.out.2.2.2.below HB2.out) (HI.out.below HB2.out) ((cell_of_row _ _ 0 _ _ _ HN.out).trans rfl) ((cell_of_row _ _ 10 _ _ _ HN.out).trans rfl)
  rintro e w3 ⟨v, rfl, hO⟩
  go_wp2_with fail
  go_ret2
  exact ⟨v, rfl, hO.lower HB2.out⟩
end Go.Proofs.YtammjbmfiakbnaaGreatDoor
