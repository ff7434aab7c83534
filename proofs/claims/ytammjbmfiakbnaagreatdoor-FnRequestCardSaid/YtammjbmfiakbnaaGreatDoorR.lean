/-
  sortedNames: a map's keys, sorted. writeStringMap, the start-up's frame, ZZStartup.
-/
import Derived.Test.YtammjbmfiakbnaaGreatDoorN
import Derived.Test.YtammjbmfiakbnaaGreatDoorR0
import Derived.Ground.NamesProg
import Derived.Ground.Names2Prog
import Derived.Shelf.Sort.Plain
import Derived.Shelf.Slices.In.SortNone
import Derived.Sort.KeysCollected
import Derived.Sort.OwnSorted
import Derived.Maps.StringElems
import Derived.Maps.RangeWalk
namespace Go.Proofs.YtammjbmfiakbnaaGreatDoor
set_option maxHeartbeats 2000000
set_option maxRecDepth 100000
set_option linter.unusedSimpArgs false
set_option linter.unusedVariables false
open Go.RowKit Go.Proofs.YtammjbmfiakbnaaGreatDoorW.PrintWords Go.Proofs.YtammjbmfiakbnaaGreatDoorW.PrintLast Go.Proofs.YtammjbmfiakbnaaGreatDoorW.PrintMore
open Go.Maps Go.Sort Go.Shelf
theorem law9 : Keyed Tryz.prog 9 := string_keyed Tryz.underlying9
theorem info9 : (Tryz.prog.info? 9).map (fun i => (i.zero, i.size, i.bytes)) = some (some (.string ⟨#[]⟩), 1, 16) := by kernel_rfl
theorem sortedNames_any {H : Type} (b n : Nat) (D0 : DataW H) (w : World) (hown : w.ownsMap Tryz.prog 9 (plainElem Tryz.prog 9) b n D0) (hmax : Maps.size D0 ≤ 10) :
    Calls Tryz.prog 282 #[.map (some b)] w fun e w' => ∃ (v : Value) (ss : List (List UInt8)), e = .returned v ∧ (ss.Nodup ∧ ∀ x, x ∈ ss ↔ has D0 (.string x) = true) ∧
      w'.ownsRow w.heap.size 9 1 v ss.length ((ss.mergeSort (fun x y => decide (x ≤ y))).map encStr) ∧ Below w.heap.size w w' := by
  have hbl := hown.lt
  go_enter Tryz.func282, Tryz.ntmps282
  go_wp2_with (first
    | (at_range; refine wpList_range_own _ rfl _ 111 rfl 9 9 law9 Tryz.underlying111 _ b n _ rfl hown ?_; intro w0 hrg0 hg0 hs0)
    | fail)
  go_frame
  go_loopw [3] (fun v wr => ∃ (left : Lit → Bool) (cnt : Nat) (ss : List (List UInt8)), wr.ranges Tryz.prog 9 (plainElem Tryz.prog 9) b w.heap.size n D0 left cnt ∧ ss.length + cnt ≤ Maps.size D0 ∧
      wr.ownsRow w.heap.size 9 1 v ss.length (ss.map encStr) ∧ Collected D0 left ss ∧ Below w.heap.size w wr)
    (fun _ wr => wr.rangeLeft b w.heap.size)
  case atStart =>
    exact ⟨_, _, [], hrg0, by simp, own_nil _ _ _ _, Collected.start D0, (Below.refl _ _).grown hg0 (Nat.le_refl _) (fun j hj => by cases hj)⟩
  case round =>
    obtain ⟨left, cnt, ss, hrg, hcs, hrow, hC, hnx⟩ := hrel
    go_wp2_with (first
      | (at_next; refine wpList_next_ranges _ rfl _ rfl 9 law9 (plainElem Tryz.prog 9) encStr Value.string (fun key kl hk => by obtain ⟨x, hx, _⟩ := Maps.keyOf_str Tryz.underlying9 hk; exact ⟨x, hx⟩) (fun v y hv => by obtain ⟨c, rfl, _⟩ := plainElem_string_inv Tryz.underlying9 hv; exact ⟨c, rfl⟩) b w.heap.size n _ _ _ rfl hrg ?_ ?_)
      | fail)
    · -- nothing is left
      intro hc0 hl0
      have hP : Hid (ss.Nodup ∧ ∀ x, x ∈ ss ↔ has D0 (.string x) = true) := Lib.hid ⟨hC.1, fun x => by rw [hC.2 x]; simp [hl0]⟩
      have HNX := Lib.hid hnx
      have hss : ss.length < 4611686018427387904 := by omega
      clear hC hcs hrg hnx
      rcases hrow.2 with ⟨rfl, hn0⟩ | ⟨g, cap, cur, rfl, hbase, hb, h1, h2, h3, h4⟩
      · obtain rfl : ss = [] := List.eq_nil_of_length_eq_zero hn0
        go_wp2_with (go_at_call 286; refine (Any.slices_Sort_string_none Tryz.laysSort none 0 _).mono ?_; rintro e w' ⟨rfl, rfl⟩)
        go_ret
        exact ⟨.slice none 0 0, [], rfl, hP.out, by rw [List.mergeSort_nil]; exact own_nil _ _ _ _, HNX.out⟩
      · have hH : Holds encStr wr g 0 ss.toArray := holds_of_block hb (by simpa using h4)
        have hgl : g < wr.heap.size := (Array.getElem?_eq_some_iff.1 hb).1
        have hc := Any.slices_Sort_string Tryz.laysSort g 0 cap ss wr hH hgl hss
        have HB := Lib.hid hb
        have H4 := Lib.hid h4
        clear hb h4 hrow
        go_wp2_with (go_at_call 286; refine hc.mono ?_; rintro e w' ⟨rfl, nn, os, rfl⟩)
        go_ret
        exact ⟨_, ss, rfl, hP.out, ownsRow_sorted (by simp) hbase HB.out h1 h2 h3, HNX.out.grown (grownBy_sorted _) HNX.out.size (fun j hj => by cases hj; exact hbase)⟩
    · -- an entry has come
      intro x c kl yd yp w2 cnt2 hkey hlk hv hat hrg2 hlt hg2 hs2 hen
      obtain ⟨x', ex, rfl, _⟩ := Maps.keyOf_str Tryz.underlying9 hkey
      obtain rfl : x = x' := encStr_inj ex
      have hrow2 := hrow.kept hg2 (Or.inr (row_ne_iter hrow hrg).symm)
      clear hs2
      go_wp2_with (at_builtin; refine app_list rfl (.tmp 11) (.tmp 13) 28 28 rfl u3 _ rfl rfl (ap_one 28 _ 9 1 16 _ Tryz.underlying28 info9 rfl (by omega) (by omega) u3 ss.length (ss.map encStr) w2.heap.size 1 (hrow2.alloc _) (heap_alloc_new _ _) rfl (by simp [Value.oneCell', encStr]) (by omega) (by have := hnx.size; have := hg2.size; simp; omega)) ?_; rintro v' w3 ⟨hown', hg3⟩)
      have hrg3 := (hrg2.alloc _).kept hg3 (row_ne_low hrow2 hbl) (row_ne_iter hrow2 hrg2)
      go_roundw
      case rel =>
        refine ⟨_, cnt2, ss ++ [x], hrg3, by simp; omega, by simpa using hown', hC.step hlk hat, ?_⟩
        exact ((hnx.grown hg2 hnx.size (fun j hj => by cases hj; exact Nat.le_refl _)).alloc (by have := hnx.size; have := hg2.size; omega) _).grown hg3 (by have := hnx.size; have := hg2.size; simp; omega) (fun j hj => (hrow2.lt j hj).1)
      case measure => rw [hrg3.left_eq, hrg.left_eq]; exact hlt
/-- Blocks that are neither rows of bytes nor framers stand. -/
def Kp (w w' : World) : Prop := ∀ (G : Nat) (cs : Array Value) (t : TypeId), t ≠ 5 → t ≠ 278 → w.heap[G]? = some (.cells cs t (0, 0)) → w'.heap[G]? = some (.cells cs t (0, 0))
theorem Kp.trans {a b c : World} (h : Kp a b) (k : Kp b c) : Kp a c := fun G cs t h1 h2 h3 => k G cs t h1 h2 (h G cs t h1 h2 h3)
theorem Kp.put {w0 w0' w1 : World} {F base n : Nat} {v : Value} {xs : List Value} {cs : Array Value} (hst : ∀ (G : Nat) (b : Obj), w0.heap[G]? = some b → w0'.heap[G]? = some b) (ho : w0.ownsRow base 5 1 v n xs)
    (hg : w0'.grownBy w1 v.ownBlock) (hc : w1.heap[F]? = some (.cells cs 278 (0, 0))) (u : Value) : Kp w0 (w1.setCell ⟨F, 7, none⟩ u) := by
  intro G ds t h1 h2 h3
  have h4 := blk_grown (hst G _ h3) hg (own_ne ho h3 (Ne.symm h1))
  exact blk_far h4 (blk_ne h4 hc h2) u
theorem Kp.row {w w' : World} (h : Kp w w') {base e size n : Nat} {v : Value} {xs : List Value} (ho : w.ownsRow base e size v n xs) (h1 : e ≠ 5) (h2 : e ≠ 278) : w'.ownsRow base e size v n xs :=
  own_move ho fun k hk => by
    obtain ⟨cells, hc⟩ := own_typed ho k hk
    rw [hc]
    exact h k cells e h1 h2 hc
set_option maxHeartbeats 400000 in
theorem writeShort_kp (wB : World) (F : Nat) (p : Int) (bs : List Int) (n : Int) (w : World) (hl : bs.length + 2 ≤ 1000000000) (hW : Fr wB w F p bs) :
    Calls Tryz.prog 281 #[.pointer (some ⟨F, 0, none⟩), .int .u16 n] w fun e w' => e = .returned (.tuple #[]) ∧ Fr wB w' F p (bs ++ be 2 n) ∧ Kp w w' := by
  obtain ⟨hb, hF, rb, v, hc, ho⟩ := hW
  have hb0 := Lib.hid hb
  have hc' := Lib.hid hc
  have hsz : wB.heap.size ≤ w.heap.size := hb.size
  have hc0 : w.cell? ⟨F, 7, none⟩ = some v := f_cell hc 7
  clear hb hc
  go_enter Tryz.func281, Tryz.ntmps281
  go_wp2_with (go_at_call 285; refine (appendShort_any wB.heap.size v bs n _ hl hsz ho).mono ?_; rintro e w1 ⟨v1, rfl, hown, hgrow⟩; have hbk1 := Lib.hid (blk_grown (hc'.out) hgrow (own_ne ho hc'.out (by decide))); have hc1 : w1.cell? ⟨F, 7, none⟩ = some v := f_cell hbk1.out 7; have hf1 := blk_froz (i := 7) hbk1.out; obtain ⟨A1, m1, c1, rfl⟩ := own_form hown)
  go_end0
  exact ⟨rfl, Fr.put_ hb0.out hF hc'.out ho hgrow hown, Kp.put (fun _ _ h => h) ho hgrow hbk1.out _⟩
set_option maxHeartbeats 400000 in
theorem writeString_kp (wB : World) (F : Nat) (p : Int) (bs : List Int) (s : ByteArray) (w : World) (hs : s.size ≤ 60000) (hl : bs.length + 2 + s.size ≤ 1000000000) (hW : Fr wB w F p bs) :
    Calls Tryz.prog 283 #[.pointer (some ⟨F, 0, none⟩), .string s] w fun e w' => e = .returned (.tuple #[]) ∧ Fr wB w' F p (bs ++ (be 2 s.size ++ bytesOf s)) ∧ Kp w w' := by
  go_enter Tryz.func283, Tryz.ntmps283
  go_wp2_with fail
  refine (writeShort_kp wB F p bs _ w (by omega) hW).mono ?_
  rintro e w1 ⟨rfl, hW1, hK1⟩
  obtain ⟨hb, hF, rb, v, hc, ho⟩ := hW1
  have hb0 := Lib.hid hb
  have hc' := Lib.hid hc
  have hsz : wB.heap.size ≤ w1.heap.size := hb.size
  have hc0 : w1.cell? ⟨F, 7, none⟩ = some v := f_cell hc 7
  clear hb hc
  go_wp2_with (at_builtin; refine app_list rfl (.tmp 13) (.tmp 14) 23 9 rfl v _ rfl rfl (ap_str 23 9 _ Tryz.underlying23 Tryz.underlying9 v (bs ++ be 2 s.size) s ho hsz (by rw [List.length_append, be_length]; omega)) ?_; rintro v1 w2 ⟨hown, hgrow⟩; have hbk1 := Lib.hid (blk_grown (hc'.out) hgrow (own_ne ho hc'.out (by decide))); have hc1 : w2.cell? ⟨F, 7, none⟩ = some v := f_cell hbk1.out 7; have hf1 := blk_froz (i := 7) hbk1.out; obtain ⟨A1, m1, c1, rfl⟩ := own_form hown)
  go_end0
  exact ⟨rfl, by rw [← List.append_assoc]; exact Fr.put_ hb0.out hF hc'.out ho hgrow hown, hK1.trans (Kp.put (fun _ _ h => h) ho hgrow hbk1.out _)⟩
theorem sorted_eq {ss ks : List (List UInt8)} (h1 : ss.Nodup) (h2 : ∀ x, x ∈ ss ↔ x ∈ ks) (h3 : ks.Pairwise (· < ·)) : ss.mergeSort (fun x y => decide (x ≤ y)) = ks := by
  have hk : ks.Nodup := h3.imp fun h e => by subst e; exact List.lt_irrefl _ h
  have hp : ss.Perm ks := (List.perm_ext_iff_of_nodup h1 hk).2 h2
  have hs : (ss.mergeSort (fun x y => decide (x ≤ y))).Pairwise (fun x y => decide (x ≤ y) = true) := List.pairwise_mergeSort (fun a b c h1 h2 => by simp only [decide_eq_true_eq] at *; exact List.le_trans h1 h2) (fun a b => by simp only [Bool.or_eq_true, decide_eq_true_eq]; exact List.le_total a b) ss
  have hs2 : ks.Pairwise (fun x y => decide (x ≤ y) = true) := h3.imp fun h => by simp only [decide_eq_true_eq]; exact List.le_of_lt h
  refine List.Perm.eq_of_pairwise (le := fun x y => decide (x ≤ y) = true) ?_ hs hs2 ((List.mergeSort_perm _ _).trans hp)
  intro a b _ _ h1 h2
  simp only [decide_eq_true_eq] at h1 h2
  exact List.le_antisymm h1 h2
theorem look_str {H : Type} {w : World} {b n : Nat} {D : DataW H} (h : w.ownsMap Tryz.prog 9 (plainElem Tryz.prog 9) b n D) (t : TypeId) (ht : Tryz.prog.underlying t = some (.map 9 9)) (hz : (zeroValue 9).run Tryz.prog w = .ok (.string ⟨#[]⟩) w) (k c : ByteArray) (hk : k.size ≤ maxLen)
    (hat : ∀ zd, D.atKey (.string k.data.toList) zd = .lit (.string c.data.toList)) : (Instr.lookup t (.map (some b)) (.string k) false).run Tryz.prog w = .ok (.string c) w := by
  obtain ⟨v, ps, hrun, hv⟩ := h.lookup law9 ht hz (plainElem_string Tryz.underlying9 (by decide)) (key := .string k) (kl := .string k.data.toList) (by simp [keyOf, Tryz.underlying9, mapKey]; exact hk)
  obtain ⟨s, rfl, hs, _⟩ := plainElem_string_inv Tryz.underlying9 hv
  rw [hat] at hs
  have e : c.data.toList = s.data.toList := by simpa using congrArg Prod.fst hs
  have e2 : c = s := by
    cases c; cases s
    simp only [ByteArray.mk.injEq]
    exact Array.toList_inj.1 e
  rw [e2]
  exact hrun
theorem enc_key (k : ByteArray) : encStr k.data.toList = .string k := by cases k; simp
/-- An option's bytes. -/
def kvbytes (kv : ByteArray × ByteArray) : List Int := sbytes kv.1 ++ sbytes kv.2
theorem kvbytes_le (kv : ByteArray × ByteArray) (h : kv.1.size ≤ 100 ∧ kv.2.size ≤ 100) : (kvbytes kv).length ≤ 204 := by
  have h1 := sbytes_le _ h.1
  have h2 := sbytes_le _ h.2
  simp only [kvbytes, List.length_append]; omega
/-- A map of options. -/
def KVMap {H : Type} (D : DataW H) (kvs : List (ByteArray × ByteArray)) : Prop := Maps.size D = kvs.length ∧ (∀ x, Maps.has D (.string x) = true ↔ x ∈ kvs.map fun kv => kv.1.data.toList) ∧ (∀ kv ∈ kvs, ∀ zd, D.atKey (.string kv.1.data.toList) zd = .lit (.string kv.2.data.toList)) ∧ (kvs.map fun kv => kv.1.data.toList).Pairwise (· < ·) ∧ ∀ kv ∈ kvs, kv.1.size ≤ 100 ∧ kv.2.size ≤ 100
theorem writeStringMap_any {H : Type} (wB : World) (F : Nat) (p : Int) (bs : List Int) (b n : Nat) (D : DataW H) (kvs : List (ByteArray × ByteArray)) (w : World) (hW : Fr wB w F p bs) (hl : bs.length ≤ 900000000) (hN : kvs.length ≤ 10) (hD : KVMap D kvs)
    (hm : wB.ownsMap Tryz.prog 9 (plainElem Tryz.prog 9) b n D) :
    Calls Tryz.prog 279 #[.pointer (some ⟨F, 0, none⟩), .map (some b)] w fun e w' => e = .returned (.tuple #[]) ∧ Fr wB w' F p (bs ++ (be 2 kvs.length ++ kvs.flatMap kvbytes)) := by
  have hz : ∀ w, (zeroValue 9).run Tryz.prog w = .ok (.string ⟨#[]⟩) w := fun w => by kernel_rfl
  have HD := Lib.hid hD
  have hlen := Lib.hid hD.1
  have HM := Lib.hid hm
  have hmw := hm.kept (grown_of_below hW.1 none) (by simp)
  clear hD hm
  go_enter Tryz.func279, Tryz.ntmps279
  go_wp2_with (first
    | (at_len; refine wpList_len_own _ rfl _ 111 rfl 9 9 Tryz.underlying111 _ b n _ rfl hmw ?_; rw [hlen.out])
    | (go_at_call 281; refine (writeShort_any wB F p bs kvs.length _ (by omega) hW).mono ?_; rintro e w1 ⟨rfl, hW1⟩; have hm1 := HM.out.kept (grown_of_below hW1.1 none) (by simp))
    | (go_at_call 282; refine (sortedNames_any b n D w1 hm1 (by rw [hlen.out]; exact hN)).mono ?_; rintro e w2 ⟨v, ss, rfl, hss, hrow, hb2⟩; rw [sorted_eq hss.1 (fun x => (hss.2 x).trans (HD.out.2.1 x)) HD.out.2.2.2.1] at hrow; have hsl : ss.length = kvs.length := (by simpa using hrow.1.symm); rw [hsl] at hrow; obtain ⟨A, c, rfl⟩ := own_slice hrow; have HRow := Lib.hid hrow; have HF2 := Lib.hid (hW1.below_ hb2); clear hss hrow hb2 hsl))
  clear hmw hm1 hW1 hW
  go_loopw [15] (fun v15 W => ∃ i : Nat, v15 = .int .i64 i ∧ i ≤ kvs.length ∧ Hid (Fr wB W F p (bs ++ be 2 kvs.length ++ (kvs.take i).flatMap kvbytes) ∧ W.ownsRow w1.heap.size 9 1 (.slice A kvs.length c) kvs.length ((kvs.map fun kv => kv.1.data.toList).map encStr))) (fun v15 _ => kvs.length - (intOf v15).toNat)
  case atStart => exact ⟨0, rfl, by omega, Lib.hid ⟨by simpa using HF2.out, HRow.out⟩⟩
  case round =>
    obtain ⟨i, rfl, hi, HW2⟩ := hrel
    clear HF2 HRow
    by_cases hlt : i < kvs.length
    · have hx : kvs[i]? = some kvs[i] := List.getElem?_eq_getElem hlt
      obtain ⟨_, g, rfl, _, hcell⟩ := own_cells HW2.out.2 (by omega)
      have kx : wr.cell? ⟨g, i, none⟩ = some (.string kvs[i].1) := by
        have := hcell i (.string kvs[i].1) (by rw [List.map_map, List.getElem?_map, hx]; simp)
        exact this
      obtain ⟨hk1, hk2⟩ := HD.out.2.2.2.2 _ (List.getElem_mem hlt)
      have hat := Lib.hid (HD.out.2.2.1 _ (List.getElem_mem hlt))
      have hsn := Lib.hid (flat_snoc kvbytes kvs i _ hx)
      have hcl : (bs ++ be 2 kvs.length ++ (kvs.take i).flatMap kvbytes).length ≤ 900010000 := by
        have h1 := flat_le kvbytes 204 (kvs.take i) (fun y hy => kvbytes_le y (HD.out.2.2.2.2 y (List.mem_of_mem_take hy)))
        have h2 : (kvs.take i).length ≤ 10 := by rw [List.length_take]; omega
        simp only [List.length_append, be_length]; omega
      generalize kvs[i] = kv at *
      obtain ⟨kk, vv⟩ := kv
      simp only at kx hk1 hk2 hat
      generalize hcs0 : bs ++ be 2 kvs.length ++ (kvs.take i).flatMap kvbytes = cs at *
      have hcs := Lib.hid hcs0
      clear hcs0 hcell hx
      have hlk := look_str (HM.out.kept (grown_of_below HW2.out.1.1 none) (by simp)) 111 Tryz.underlying111 (hz _) kk vv (by simp only [maxLen]; omega) hat.out
      clear hz
      have HW9 := Lib.hid HW2.out
      clear HW2
      go_wp2_with fail
      refine (writeString_kp wB F p cs kk wr (by omega) (by omega) HW9.out.1).mono ?_
      rintro e w3 ⟨rfl, hW3, hK3⟩
      have hl4 : (cs ++ (be 2 kk.size ++ bytesOf kk)).length + 2 + vv.size ≤ 1000000000 := by simp only [List.length_append, be_length, bytesOf_length]; omega
      clear hlk
      go_wp2_with fail
      refine (writeString_kp wB F p (cs ++ (be 2 kk.size ++ bytesOf kk)) vv w3 (by omega) hl4 hW3).mono ?_
      rintro e w4 ⟨rfl, hW4, hK4⟩
      clear hl4
      go_wp2_with fail
      go_roundw
      case rel =>
        refine ⟨i + 1, by go_num, by omega, Lib.hid ⟨?_, (hK3.trans hK4).row HW9.out.2 (by decide) (by decide)⟩⟩
        rw [hsn.out, ← List.append_assoc, hcs.out]
        simpa [kvbytes, sbytes, List.append_assoc] using hW4
      case measure => simp [intOf]; omega
    · go_wp2
      go_end0
      have hii : i = kvs.length := by omega
      have hW3 := HW2.out.1
      rw [hii, List.take_length] at hW3
      rw [List.append_assoc] at hW3
      exact ⟨rfl, hW3⟩
set_option maxHeartbeats 1000000 in
theorem b_startup {H : Type} (wB : World) (F B : Nat) (p s : Int) (b n : Nat) (D : DataW H) (kvs : List (ByteArray × ByteArray)) (w : World) (hp : p = 3 ∨ p = 4) (hF : Fs wB w F p) (hN : kvs.length ≤ 10) (hD : KVMap D kvs)
    (hm : wB.ownsMap Tryz.prog 9 (plainElem Tryz.prog 9) b n D) (k0 : wB.cell? ⟨B, 0, none⟩ = some (.map (some b))) :
    Calls Tryz.prog 277 #[.pointer (some ⟨B, 0, none⟩), .pointer (some ⟨F, 0, none⟩), .int .i64 s] w fun e w' => e = .returned .nilIface ∧ Fr wB w' F p (frame p 1 s (be 2 kvs.length ++ kvs.flatMap kvbytes)) := by
  have hfl := hF.flags
  have hbl := World.block_lt_of_cell? wB _ k0
  have HK := Lib.hid k0
  have HD := Lib.hid hD
  clear hD k0
  go_enter Tryz.func277, Tryz.ntmps277
  go_wp2_with fail
  refine (header_ wB F p 1 s w none hp hF (Ri.none_ w)).mono ?_
  rintro e w1 ⟨rfl, hW, _⟩
  have k1 := (hW.1.cell (p := ⟨B, 0, none⟩) hbl).trans HK.out
  go_wp2_with fail
  refine (writeStringMap_any wB F p _ b n D kvs w1 hW (by simp only [hdr_len, List.length_nil]; omega) hN HD.out hm).mono ?_
  rintro e w2 ⟨rfl, hW2⟩
  rw [List.append_assoc, List.nil_append] at hW2
  clear k1
  go_wp2_with fail
  refine (finish_ wB F p 1 s _ w2 hp ?_ hW2).mono ?_
  · have h1 := flat_le kvbytes 204 kvs (fun y hy => kvbytes_le y (HD.out.2.2.2.2 y hy))
    simp only [List.length_append, be_length]
    omega
  rintro e w3 ⟨rfl, hW3⟩
  go_wp2_with fail
  go_ret
  exact ⟨rfl, hW3⟩
set_option maxHeartbeats 1000000 in
theorem zz_startup {H : Type} (w : World) (p s : Int) (b n : Nat) (D : DataW H) (kvs : List (ByteArray × ByteArray)) (hp : p = 3 ∨ p = 4) (hN : kvs.length ≤ 10) (hD : KVMap D kvs) (hm : w.ownsMap Tryz.prog 9 (plainElem Tryz.prog 9) b n D) :
    Calls Tryz.prog 42 #[.int .u8 p, .int .i64 s, .map (some b)] w fun e w' => ∃ v, e = .returned (.tuple #[v, .nilIface]) ∧ Out w w' v (frame p 1 s (be 2 kvs.length ++ kvs.flatMap kvbytes)) := by
  have HM := Lib.hid (hm.alloc (.cells #[.map (some b)] 174))
  have HD := Lib.hid hD
  clear hm hD
  have hb0 : Below w.heap.size w (w.alloc (.cells #[.map (some b)] 174)) := below_alloc (Below.refl _ _) _
  have hn0 := heap_alloc_new w (.cells #[.map (some b)] 174)
  have HB := Lib.hid hb0
  have HN := Lib.hid hn0
  clear hb0 hn0
  go_enter Tryz.func42, Tryz.ntmps42
  go_wp2_with fail
  refine (zzBuild_any _ p s _ 277 w.heap.size (frame p 1 s (be 2 kvs.length ++ kvs.flatMap kvbytes)) hp (m277 _) g277 (fun F w1 hF => b_startup _ F _ p s b n D kvs w1 hp hF hN HD.out HM.out ((cell_of_row _ _ 0 _ _ _ HN.out).trans rfl))).mono ?_
  rintro e w2 ⟨v, rfl, hO⟩
  go_wp2_with fail
  go_ret2
  exact ⟨v, rfl, hO.lower HB.out⟩
end Go.Proofs.YtammjbmfiakbnaaGreatDoor
