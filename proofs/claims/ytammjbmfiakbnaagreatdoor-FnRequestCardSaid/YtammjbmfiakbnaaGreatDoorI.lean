/-
  Whole frames, but for the start-up's and the batch's: what each writes behind the header, and the header that finish sets. (Version 3 or 4; no payload.) The frames' buildFrame methods, the framer's birth, and zzBuild for each kind of frame.
-/
import Derived.Test.YtammjbmfiakbnaaGreatDoorH
namespace Go.Proofs.YtammjbmfiakbnaaGreatDoor
set_option maxHeartbeats 2000000
set_option maxRecDepth 100000
set_option linter.unusedSimpArgs false
set_option linter.unusedVariables false
open Go.RowKit Go.Proofs.YtammjbmfiakbnaaGreatDoorW.PrintWords Go.Proofs.YtammjbmfiakbnaaGreatDoorW.PrintLast Go.Proofs.YtammjbmfiakbnaaGreatDoorW.PrintMore
theorem qbytes_le (q : QP) (hq : q.ok) : (qbytes q).length ≤ 10000 := by
  obtain ⟨hN, hok, hpg0, hpg1, hpag, hser⟩ := hq
  have hv : (q.vals.flatMap (vbytes (named q.vals))).length ≤ 6000 := by
    have := flat_le (vbytes (named q.vals)) 300 q.vals (fun y hy => vbytes_le _ y (hok y hy))
    omega
  have o1 := opt_le (0 < q.vals.length) (be 2 q.vals.length ++ q.vals.flatMap (vbytes (named q.vals)))
  have o2 := opt_le (0 < q.page) (be 4 q.page)
  have o3 := opt_le (0 < q.paging.length) (be 4 q.paging.length ++ q.paging)
  have o4 := opt_le (0 < q.serial) (be 2 q.serial)
  have o5 := opt_le (q.hasT = true) (be 8 q.t)
  simp only [List.length_append, be_length] at o1 o2 o3 o4 o5
  unfold qbytes
  simp only [List.length_append, be_length, List.length_singleton]
  omega
/-- The bytes of a whole frame. -/
def frame (p op s : Int) (body : List Int) : List Int := [p, 0, s / 256 % 256, s % 256, op] ++ be 4 body.length ++ body
theorem fin_frame (p op s : Int) (body : List Int) : fin (hdr0 p op s ++ body) = frame p op s body := by
  have e : ((hdr0 p op s ++ body).length : Int) - 9 = body.length := by simp [hdr0]; omega
  unfold fin
  rw [e]
  simp only [frame, be_4, hdr0, List.cons_append, List.nil_append, List.set_cons_succ, List.set_cons_zero]
theorem hdr_len (p op s : Int) (body : List Int) : (hdr0 p op s ++ body).length = 9 + body.length := by simp [hdr0]; omega
theorem hdr_rd (p op s : Int) (body : List Int) : rd (hdr0 p op s ++ body) 1 = 0 := rfl
/-- A framer just made. -/
def Fs (wB W : World) (F : Nat) (p : Int) : Prop := Below wB.heap.size wB W ∧ wB.heap.size ≤ F ∧ ∃ g c rb, W.heap[F]? = some (.cells (frc p rb (.slice (some ⟨g, 0, none⟩) 0 c)) 278 (0, 0)) ∧ W.ownsRow wB.heap.size 5 1 (.slice (some ⟨g, 0, none⟩) 0 c) 0 []
theorem Fs.below_ {wB W w1 : World} {F : Nat} {p : Int} (h : Fs wB W F p) (hb : Below W.heap.size W w1) : Fs wB w1 F p := by
  obtain ⟨h1, h2, g, c, rb, h3, h4⟩ := h
  exact ⟨below_then h1 h1.size hb, h2, g, c, rb, blk_below h3 hb, pw_own_below h4 hb⟩
theorem Fs.alloc {wB W : World} {F : Nat} {p : Int} (h : Fs wB W F p) (o : Obj) : Fs wB (W.alloc o) F p := h.below_ (below_alloc (Below.refl _ _) o)
theorem Fs.drew {wB W : World} {F : Nat} {p : Int} (h : Fs wB W F p) : Fs wB W.drew F p := h.below_ (Below.refl _ _).drew
theorem Fs.flags {wB W : World} {F : Nat} {p : Int} (h : Fs wB W F p) : W.cell? ⟨F, 1, none⟩ = some (.int .u8 0) := by
  obtain ⟨_, _, g, c, rb, hc, _⟩ := h
  exact f_cell hc 1
theorem Fr.proto {wB W : World} {F : Nat} {p : Int} {bs : List Int} (h : Fr wB W F p bs) : W.cell? ⟨F, 0, none⟩ = some (.int .u8 p) := by
  obtain ⟨_, _, rb, v, hc, _⟩ := h
  exact f_cell hc 0
theorem header_ (wB : World) (F : Nat) (p op s : Int) (w : World) (o : Option Nat) (hp : p = 3 ∨ p = 4) (hF : Fs wB w F p) (hR : Ri w o) :
    Calls Tryz.prog 278 #[.pointer (some ⟨F, 0, none⟩), .int .u8 0, .int .u8 op, .int .i64 s] w fun e w' => e = .returned (.tuple #[]) ∧ Fr wB w' F p (hdr0 p op s ++ []) ∧ Ri w' o := by
  obtain ⟨hb, h2, g, c, rb, hc, ho⟩ := hF
  rw [List.append_nil]
  exact writeHeader_any wB F g c p op s rb w o hR (by omega) hb h2 hc ho
theorem finish_ (wB : World) (F : Nat) (p op s : Int) (body : List Int) (w : World) (hp : p = 3 ∨ p = 4) (hl : body.length ≤ 150000000) (hW : Fr wB w F p (hdr0 p op s ++ body)) :
    Calls Tryz.prog 280 #[.pointer (some ⟨F, 0, none⟩)] w fun e w' => e = .returned .nilIface ∧ Fr wB w' F p (frame p op s body) := by
  rw [← fin_frame]
  exact finish_any wB F p _ w (by omega) (by rw [hdr_len]; omega) (by rw [hdr_len]; omega) (hdr_rd p op s body) hW
set_option maxHeartbeats 400000 in
theorem payload_nil (F : Nat) (P : Addr) (w : World) (h : w.cell? P = some (.map none)) :
    Calls Tryz.prog 309 #[.pointer (some ⟨F, 0, none⟩), .pointer (some P)] w fun e w' => e = .returned (.tuple #[]) ∧ w' = w := by
  go_enter Tryz.func309, Tryz.ntmps309
  go_wp2_with fail
  go_end0
  exact ⟨rfl, rfl⟩
set_option maxHeartbeats 1000000 in
theorem options_any (wB : World) (F : Nat) (p s : Int) (v : Value) (w : World) (hp : p = 3 ∨ p = 4) (hF : Fs wB w F p) :
    Calls Tryz.prog 305 #[.pointer (some ⟨F, 0, none⟩), .int .i64 s, v] w fun e w' => e = .returned .nilIface ∧ Fr wB w' F p (frame p 5 s []) := by
  have hfl := hF.flags
  go_enter Tryz.func305, Tryz.ntmps305
  go_wp2_with fail
  refine (header_ wB F p 5 s w none hp hF (Ri.none_ w)).mono ?_
  rintro e w1 ⟨rfl, hW, _⟩
  go_wp2_with fail
  refine (finish_ wB F p 5 s [] w1 hp (by simp) hW).mono ?_
  rintro e w2 ⟨rfl, hW2⟩
  go_wp2_with fail
  go_ret
  exact ⟨rfl, hW2⟩
set_option maxHeartbeats 1000000 in
theorem auth_any (wB : World) (F : Nat) (p s : Int) (ad : Addr) (m c : Nat) (l : List Int) (w : World) (hp : p = 3 ∨ p = 4) (hF : Fs wB w F p) (hm : m = l.length) (hl : l.length ≤ 100) (hr : ReadsInt wB .u8 (some ad) m l) :
    Calls Tryz.prog 333 #[.pointer (some ⟨F, 0, none⟩), .int .i64 s, .slice (some ad) m c] w fun e w' => e = .returned .nilIface ∧ Fr wB w' F p (frame p 15 s (be 4 l.length ++ l)) := by
  subst hm
  have hfl := hF.flags
  go_enter Tryz.func333, Tryz.ntmps333
  go_wp2_with fail
  refine (header_ wB F p 15 s w none hp hF (Ri.none_ w)).mono ?_
  rintro e w1 ⟨rfl, hW, _⟩
  go_wp2_with fail
  refine (writeBytes_some wB F p _ l ad _ c w1 rfl (by omega) (by simp only [hdr_len, List.length_nil]; omega) hW hr).mono ?_
  rintro e w2 ⟨rfl, hW2⟩
  rw [List.append_assoc, List.nil_append] at hW2
  go_wp2_with fail
  refine (finish_ wB F p 15 s _ w2 hp (by simp [be_length]; omega) hW2).mono ?_
  rintro e w3 ⟨rfl, hW3⟩
  go_wp2_with fail
  go_ret
  exact ⟨rfl, hW3⟩
theorem query_any (wB : World) (F b o : Nat) (p s : Int) (st : ByteArray) (q : QP) (A A4 : Option Addr) (c c4 : Nat) (w : World) (hp : p = 3 ∨ p = 4) (hF : Fs wB w F p) (hs : st.size ≤ 100) (hq : q.ok)
    (hQ : QCells wB b o q A A4 c c4) (hR : QRow wB A q.vals) (hP : ReadsInt wB .u8 A4 q.paging.length q.paging) :
    Calls Tryz.prog 307 #[.pointer (some ⟨F, 0, none⟩), .int .i64 s, .string st, .pointer (some ⟨b, o, none⟩), .map none] w fun e w' => e = .returned .nilIface ∧ Fr wB w' F p (frame p 7 s (be 4 st.size ++ bytesOf st ++ qbytes q)) := by
  have hF1 := hF.alloc (.cells #[.map none] 178 (0, 0))
  have hfl := hF1.flags
  have hR1 : Ri (w.alloc (.cells #[.map none] 178 (0, 0))) (some w.heap.size) := by
    rintro G ⟨⟩
    exact heap_alloc_new _ _
  have hk : (w.alloc (.cells #[.map none] 178 (0, 0))).cell? ⟨w.heap.size, 0, none⟩ = some (.map none) := (cell_of_row _ _ 0 _ _ _ (hR1 _ rfl)).trans rfl
  clear hF
  go_enter Tryz.func307, Tryz.ntmps307
  go_upto_region 3 with (fail)
  generalize hw0 : w.alloc _ = w0 at *
  generalize w.heap.size = G at *
  clear hw0
  go_wp2_with fail
  refine (header_ wB F p 7 s w0 (some G) hp hF1 hR1).mono ?_
  rintro e w1 ⟨rfl, hW, hR1⟩
  have hk1 : w1.cell? ⟨G, 0, none⟩ = some (.map none) := (cell_of_row _ _ 0 _ _ _ (hR1 _ rfl)).trans rfl
  clear hk hfl
  go_wp2_with fail
  refine (payload_nil F _ w1 hk1).mono ?_
  rintro e w1' ⟨rfl, rfl⟩
  go_wp2_with fail
  refine (writeLongString_any wB F p _ st w1' (by omega) (by simp only [hdr_len, List.length_nil]; omega) hW).mono ?_
  rintro e w2 ⟨rfl, hW2⟩
  rw [List.append_assoc, List.nil_append] at hW2
  clear hW hk1 hR1
  go_wp2_with fail
  refine (writeQueryParams_any wB F b o p _ q A A4 c c4 w2 hp (by rw [hdr_len]; simp [be_length, bytesOf_length]; omega) hq hW2 hQ hR hP).mono ?_
  rintro e w3 ⟨rfl, hW3⟩
  rw [List.append_assoc] at hW3
  go_wp2_with fail
  refine (finish_ wB F p 7 s _ w3 hp ?_ hW3).mono ?_
  · have := qbytes_le q hq
    simp only [List.length_append, be_length, bytesOf_length]
    omega
  rintro e w4 ⟨rfl, hW4⟩
  go_wp2_with fail
  go_ret
  exact ⟨rfl, hW4⟩
theorem execute_any (wB : World) (F b o : Nat) (p s : Int) (id : List Int) (Ai : Option Addr) (ci : Nat) (P : Addr) (q : QP) (A A4 : Option Addr) (c c4 : Nat) (w : World) (hp : p = 3 ∨ p = 4) (hF : Fs wB w F p) (hs : id.length ≤ 100) (hq : q.ok)
    (hk : wB.cell? P = some (.map none)) (hid : ReadsInt wB .u8 Ai id.length id) (hQ : QCells wB b o q A A4 c c4) (hR : QRow wB A q.vals) (hP : ReadsInt wB .u8 A4 q.paging.length q.paging) :
    Calls Tryz.prog 325 #[.pointer (some ⟨F, 0, none⟩), .int .i64 s, .slice Ai id.length ci, .pointer (some ⟨b, o, none⟩), .pointer (some P)] w fun e w' => e = .returned .nilIface ∧ Fr wB w' F p (frame p 10 s (be 2 id.length ++ id ++ qbytes q)) := by
  have hfl := hF.flags
  have hp1 : decide (1 < p) = true := by rcases hp with rfl | rfl <;> rfl
  have hkw : w.cell? P = some (.map none) := (hF.1.cell (World.block_lt_of_cell? wB P hk)).trans hk
  have HK := Lib.hid hk
  clear hk
  go_enter Tryz.func325, Tryz.ntmps325
  go_wp2_with fail
  refine (header_ wB F p 10 s w none hp hF (Ri.none_ w)).mono ?_
  rintro e w1 ⟨rfl, hW, _⟩
  have hk1 : w1.cell? P = some (.map none) := (hW.1.cell (World.block_lt_of_cell? wB P HK.out)).trans HK.out
  clear hfl hkw
  go_wp2_with fail
  refine (payload_nil F _ w1 hk1).mono ?_
  rintro e w1' ⟨rfl, rfl⟩
  go_wp2_with fail
  refine (writeShortBytes_any wB F p _ id Ai _ ci w1' rfl (by omega) (by simp only [hdr_len, List.length_nil]; omega) hW hid).mono ?_
  rintro e w2 ⟨rfl, hW2⟩
  rw [List.append_assoc, List.nil_append] at hW2
  have kp := hW2.proto
  clear hW hk1
  go_wp2_with fail
  refine (writeQueryParams_any wB F b o p _ q A A4 c c4 w2 hp (by rw [hdr_len]; simp only [List.length_append, be_length]; omega) hq hW2 hQ hR hP).mono ?_
  rintro e w3 ⟨rfl, hW3⟩
  rw [List.append_assoc] at hW3
  clear kp hW2
  go_wp2_with fail
  refine (finish_ wB F p 10 s _ w3 hp ?_ hW3).mono ?_
  · have := qbytes_le q hq
    simp only [List.length_append, be_length]
    omega
  rintro e w4 ⟨rfl, hW4⟩
  go_wp2_with fail
  go_ret
  exact ⟨rfl, hW4⟩
theorem prepare_any (wB : World) (F b : Nat) (p s : Int) (st : ByteArray) (w : World) (hp : p = 3 ∨ p = 4) (hF : Fs wB w F p) (hs : st.size ≤ 100)
    (k0 : wB.cell? ⟨b, 0, none⟩ = some (.string st)) (k1 : wB.cell? ⟨b, 1, none⟩ = some (.string ⟨#[]⟩)) (k2 : wB.cell? ⟨b, 2, none⟩ = some (.map none)) :
    Calls Tryz.prog 323 #[.pointer (some ⟨b, 0, none⟩), .pointer (some ⟨F, 0, none⟩), .int .i64 s] w fun e w' => e = .returned .nilIface ∧ Fr wB w' F p (frame p 9 s (be 4 st.size ++ bytesOf st)) := by
  have hfl := hF.flags
  have hp4 : decide (4 < p) = false := by rcases hp with rfl | rfl <;> rfl
  have hbl : b < wB.heap.size := World.block_lt_of_cell? wB _ k0
  have HK : Hid (∀ W, Below wB.heap.size wB W → W.cell? ⟨b, 0, none⟩ = some (.string st) ∧ W.cell? ⟨b, 1, none⟩ = some (.string ⟨#[]⟩) ∧ W.cell? ⟨b, 2, none⟩ = some (.map none)) := by
    refine Lib.hid (fun W hb => ⟨?_, ?_, ?_⟩)
    · exact (hb.cell (p := ⟨b, 0, none⟩) hbl).trans k0
    · exact (hb.cell (p := ⟨b, 1, none⟩) hbl).trans k1
    · exact (hb.cell (p := ⟨b, 2, none⟩) hbl).trans k2
  clear k0 k1 k2 hbl
  obtain ⟨k0, k1, k2⟩ := HK.out w hF.1
  go_enter Tryz.func323, Tryz.ntmps323
  go_wp2_with fail
  refine (header_ wB F p 9 s w none hp hF (Ri.none_ w)).mono ?_
  rintro e w1 ⟨rfl, hW, _⟩
  clear k0 k1 k2 hfl
  obtain ⟨k0, k1, k2⟩ := HK.out w1 hW.1
  go_wp2_with fail
  refine (payload_nil F _ w1 k2).mono ?_
  rintro e w1' ⟨rfl, rfl⟩
  go_wp2_with fail
  refine (writeLongString_any wB F p _ st w1' (by omega) (by simp only [hdr_len, List.length_nil]; omega) hW).mono ?_
  rintro e w2 ⟨rfl, hW2⟩
  rw [List.append_assoc, List.nil_append] at hW2
  have kp := hW2.proto
  clear hW k0 k1 k2
  obtain ⟨k0, k1, k2⟩ := HK.out w2 hW2.1
  go_wp2_with fail
  refine (finish_ wB F p 9 s _ w2 hp ?_ hW2).mono ?_
  · simp only [List.length_append, be_length, bytesOf_length]
    omega
  rintro e w4 ⟨rfl, hW4⟩
  go_wp2_with fail
  go_ret
  exact ⟨rfl, hW4⟩
/-- A row of texts. -/
def StrRow (w : World) (A : Option Addr) (xs : List ByteArray) : Prop := 0 < xs.length → ∃ g, A = some ⟨g, 0, none⟩ ∧ ∀ i x, xs[i]? = some x → w.cell? ⟨g, i, none⟩ = some (.string x)
/-- The bytes of a text with its length. -/
def sbytes (x : ByteArray) : List Int := be 2 x.size ++ bytesOf x
theorem sbytes_le (x : ByteArray) (h : x.size ≤ 100) : (sbytes x).length ≤ 102 := by simp only [sbytes, List.length_append, be_length, bytesOf_length]; omega
theorem writeStringList_any (wB : World) (F : Nat) (p : Int) (bs : List Int) (xs : List ByteArray) (A : Option Addr) (c : Nat) (w : World) (hW : Fr wB w F p bs) (hN : xs.length ≤ 10) (hok : ∀ x ∈ xs, x.size ≤ 100) (hl : bs.length ≤ 900000000) (hR : StrRow wB A xs) :
    Calls Tryz.prog 329 #[.pointer (some ⟨F, 0, none⟩), .slice A xs.length c] w fun e w' => e = .returned (.tuple #[]) ∧ Fr wB w' F p (bs ++ (be 2 xs.length ++ xs.flatMap sbytes)) := by
  have HR := Lib.hid hR
  have Hok := Lib.hid hok
  clear hR hok
  go_enter Tryz.func329, Tryz.ntmps329
  go_wp2_with (go_at_call 281; refine (writeShort_any wB F p bs xs.length _ (by omega) hW).mono ?_; rintro e w1 ⟨rfl, hW1⟩)
  have HW1 := Lib.hid hW1
  clear hW1 hW
  go_loopw [13] (fun v7 W => ∃ i : Nat, v7 = .int .i64 i ∧ i ≤ xs.length ∧ Hid (Fr wB W F p (bs ++ be 2 xs.length ++ (xs.take i).flatMap sbytes))) (fun v7 _ => xs.length - (intOf v7).toNat)
  case atStart => exact ⟨0, rfl, by omega, Lib.hid (by simpa using HW1.out)⟩
  case round =>
    obtain ⟨i, rfl, hi, HW2⟩ := hrel
    clear HW1
    by_cases hlt : i < xs.length
    · have hx : xs[i]? = some xs[i] := List.getElem?_eq_getElem hlt
      obtain ⟨gq, rfl, hrow⟩ := HR.out (by omega)
      have kx := hrow i _ hx
      have hxn := Hok.out _ (List.getElem_mem hlt)
      have hsn := Lib.hid (flat_snoc sbytes xs i _ hx)
      have hcl : (bs ++ be 2 xs.length ++ (xs.take i).flatMap sbytes).length ≤ 900010000 := by
        have h1 := flat_le sbytes 102 (xs.take i) (fun y hy => sbytes_le y (Hok.out y (List.mem_of_mem_take hy)))
        have h2 : (xs.take i).length ≤ 10 := by rw [List.length_take]; omega
        simp only [List.length_append, be_length]; omega
      generalize xs[i] = x at *
      generalize hcs0 : bs ++ be 2 xs.length ++ (xs.take i).flatMap sbytes = cs at *
      have hcs := Lib.hid hcs0
      clear hcs0
      have kw : wr.cell? ⟨gq, i, none⟩ = some (.string x) := (HW2.out.1.cell (World.block_lt_of_cell? wB _ kx)).trans kx
      clear kx hrow hx
      go_wp2_with (go_at_call 283; refine (writeString_any wB F p cs x _ (by omega) (by omega) HW2.out).mono ?_; rintro e w2 ⟨rfl, hW3⟩)
      go_roundw
      case rel =>
        refine ⟨i + 1, by go_num, by omega, Lib.hid ?_⟩
        rw [hsn.out, ← List.append_assoc, hcs.out]
        exact hW3
      case measure => simp [intOf]; omega
    · go_wp2
      go_end0
      have hii : i = xs.length := by omega
      have hW3 := HW2.out
      rw [hii, List.take_length] at hW3
      rw [List.append_assoc] at hW3
      exact ⟨rfl, hW3⟩
set_option maxHeartbeats 1000000 in
theorem register_any (wB : World) (F b : Nat) (p s : Int) (xs : List ByteArray) (A : Option Addr) (c : Nat) (w : World) (hp : p = 3 ∨ p = 4) (hF : Fs wB w F p) (hN : xs.length ≤ 10) (hok : ∀ x ∈ xs, x.size ≤ 100) (hR : StrRow wB A xs) (k0 : wB.cell? ⟨b, 0, none⟩ = some (.slice A xs.length c)) :
    Calls Tryz.prog 328 #[.pointer (some ⟨F, 0, none⟩), .int .i64 s, .pointer (some ⟨b, 0, none⟩)] w fun e w' => e = .returned .nilIface ∧ Fr wB w' F p (frame p 11 s (be 2 xs.length ++ xs.flatMap sbytes)) := by
  have hfl := hF.flags
  have Hok := Lib.hid hok
  have hbl := World.block_lt_of_cell? wB _ k0
  have HK := Lib.hid k0
  clear hok k0
  go_enter Tryz.func328, Tryz.ntmps328
  go_wp2_with fail
  refine (header_ wB F p 11 s w none hp hF (Ri.none_ w)).mono ?_
  rintro e w1 ⟨rfl, hW, _⟩
  have k1 := (hW.1.cell (p := ⟨b, 0, none⟩) hbl).trans HK.out
  go_wp2_with fail
  refine (writeStringList_any wB F p _ xs A c w1 hW hN Hok.out (by simp only [hdr_len, List.length_nil]; omega) hR).mono ?_
  rintro e w2 ⟨rfl, hW2⟩
  rw [List.append_assoc, List.nil_append] at hW2
  clear k1
  go_wp2_with fail
  refine (finish_ wB F p 11 s _ w2 hp ?_ hW2).mono ?_
  · have h1 := flat_le sbytes 102 xs (fun y hy => sbytes_le y (Hok.out y hy))
    simp only [List.length_append, be_length]
    omega
  rintro e w3 ⟨rfl, hW3⟩
  go_wp2_with fail
  go_ret
  exact ⟨rfl, hW3⟩
set_option maxHeartbeats 1000000 in
theorem b_options (wB : World) (F : Nat) (p s : Int) (v : Value) (w : World) (hp : p = 3 ∨ p = 4) (hF : Fs wB w F p) :
    Calls Tryz.prog 304 #[v, .pointer (some ⟨F, 0, none⟩), .int .i64 s] w fun e w' => e = .returned .nilIface ∧ Fr wB w' F p (frame p 5 s []) := by
  go_enter Tryz.func304, Tryz.ntmps304
  go_wp2_with fail
  refine (options_any wB F p s v w hp hF).mono ?_
  rintro e w1 ⟨rfl, hW1⟩
  go_wp2_with fail
  go_ret
  exact ⟨rfl, hW1⟩
set_option maxHeartbeats 1000000 in
theorem b_auth (wB : World) (F b : Nat) (p s : Int) (ad : Addr) (m c : Nat) (l : List Int) (w : World) (hp : p = 3 ∨ p = 4) (hF : Fs wB w F p) (hm : m = l.length) (hl : l.length ≤ 100) (hr : ReadsInt wB .u8 (some ad) m l) (k0 : wB.cell? ⟨b, 0, none⟩ = some (.slice (some ad) m c)) :
    Calls Tryz.prog 332 #[.pointer (some ⟨b, 0, none⟩), .pointer (some ⟨F, 0, none⟩), .int .i64 s] w fun e w' => e = .returned .nilIface ∧ Fr wB w' F p (frame p 15 s (be 4 l.length ++ l)) := by
  subst hm
  have k1 : w.cell? ⟨b, 0, none⟩ = some (.slice (some ad) l.length c) := (hF.1.cell (World.block_lt_of_cell? wB _ k0)).trans k0
  clear k0
  go_enter Tryz.func332, Tryz.ntmps332
  go_wp2_with fail
  refine (auth_any wB F p s ad _ c l w hp hF rfl hl hr).mono ?_
  rintro e w1 ⟨rfl, hW1⟩
  go_wp2_with fail
  go_ret
  exact ⟨rfl, hW1⟩
set_option maxHeartbeats 1000000 in
theorem b_register (wB : World) (F b : Nat) (p s : Int) (xs : List ByteArray) (A : Option Addr) (c : Nat) (w : World) (hp : p = 3 ∨ p = 4) (hF : Fs wB w F p) (hN : xs.length ≤ 10) (hok : ∀ x ∈ xs, x.size ≤ 100) (hR : StrRow wB A xs) (k0 : wB.cell? ⟨b, 0, none⟩ = some (.slice A xs.length c)) :
    Calls Tryz.prog 327 #[.pointer (some ⟨b, 0, none⟩), .pointer (some ⟨F, 0, none⟩), .int .i64 s] w fun e w' => e = .returned .nilIface ∧ Fr wB w' F p (frame p 11 s (be 2 xs.length ++ xs.flatMap sbytes)) := by
  have HK := Lib.hid k0
  have Hok := Lib.hid hok
  clear k0 hok
  go_enter Tryz.func327, Tryz.ntmps327
  go_wp2_with fail
  refine (register_any wB F b p s xs A c w hp hF hN Hok.out hR HK.out).mono ?_
  rintro e w1 ⟨rfl, hW1⟩
  go_wp2_with fail
  go_ret
  exact ⟨rfl, hW1⟩
theorem b_query (wB : World) (F b : Nat) (p s : Int) (st : ByteArray) (q : QP) (A A4 : Option Addr) (c c4 : Nat) (w : World) (hp : p = 3 ∨ p = 4) (hF : Fs wB w F p) (hs : st.size ≤ 100) (hq : q.ok) (hQ : QCells wB b 1 q A A4 c c4) (hR : QRow wB A q.vals) (hP : ReadsInt wB .u8 A4 q.paging.length q.paging) (k0 : wB.cell? ⟨b, 0, none⟩ = some (.string st)) (k1 : wB.cell? ⟨b, 10, none⟩ = some (.map none)) :
    Calls Tryz.prog 306 #[.pointer (some ⟨b, 0, none⟩), .pointer (some ⟨F, 0, none⟩), .int .i64 s] w fun e w' => e = .returned .nilIface ∧ Fr wB w' F p (frame p 7 s (be 4 st.size ++ bytesOf st ++ qbytes q)) := by
  have hk0 : w.drew.cell? ⟨b, 0, none⟩ = some (.string st) := (hF.drew.1.cell (World.block_lt_of_cell? wB _ k0)).trans k0
  have hk1 : w.drew.cell? ⟨b, 10, none⟩ = some (.map none) := (hF.drew.1.cell (World.block_lt_of_cell? wB _ k1)).trans k1
  have HF := Lib.hid hF.drew
  have HQ : Hid (q.ok ∧ QCells wB b 1 q A A4 c c4 ∧ QRow wB A q.vals ∧ ReadsInt wB .u8 A4 q.paging.length q.paging) := ⟨hq, hQ, hR, hP⟩
  clear k0 k1 hF hq hQ hR hP
  go_enter Tryz.func306, Tryz.ntmps306
  go_upto_region 1 with (fail)
  refine start_ (n := 15) (S := fun w' => w'.cell? ⟨b, 0, none⟩ = some (.string st) ∧ w'.cell? ⟨b, 10, none⟩ = some (.map none)) (ds := [13]) #[false, false, false, false, false, false, false, false, false, false, false, false, false, false, false] (by kernel_rfl) rfl rfl ⟨hk0, hk1⟩ (fun hHeld => ?_)
  refine e_o 0 ?_
  refine e_o 1 ?_
  refine e_o 2 ?_
  refine e_o 3 ?_
  refine e_o 4 ?_
  refine e_o 6 ?_
  refine e_o 7 ?_
  refine e_o 8 ?_
  refine e_o 9 ?_
  refine e_o 10 ?_
  refine e_o 11 ?_
  refine e_t 5 hHeld ?_
  refine e_t 12 hHeld ?_
  refine last_ (i := 13) (N := some 20) #[true, true, true, true, true, true, true, true, true, true, true, true, true, true, false] rfl rfl (by kernel_rfl) (by decide) (fun K hK => ?_)
  refine goes_ Tryz.func307 (by kernel_rfl) rfl #[.pointer (some ⟨F, 0, none⟩), .int .i64 s, .string st, .pointer (some ⟨b, 1, none⟩), .map none] (by rfl) rfl rfl (by simp only [List.map_toArray, List.map_cons, List.map_nil]; rfl) ?_
  with_reducible refine (query_any wB F b 1 p s st q A A4 c c4 _ hp HF.out hs HQ.out.1 HQ.out.2.1 HQ.out.2.2.1 HQ.out.2.2.2).mono ?_
  rintro e w3 ⟨rfl, hW3⟩
  refine ⟨_, rfl, ?_⟩
  refine hK.out _ _ ?_
  clear hK K
  refine norm_ (a' := ?_) ?_ ?_
  rotate_left
  · show Act.put _ (some 20) _ = _
    simp only [Act.put, List.setIfInBounds_toArray, List.set_cons_zero, List.set_cons_succ, i64_w, i32_w]
    rfl
  refine e_o 14 ?_
  refine done_ (by kernel_rfl) ?_
  go_wp2_with fail
  go_ret
  exact ⟨rfl, hW3⟩
theorem b_execute (wB : World) (F b : Nat) (p s : Int) (id : List Int) (Ai : Option Addr) (ci : Nat) (q : QP) (A A4 : Option Addr) (c c4 : Nat) (w : World) (hp : p = 3 ∨ p = 4) (hF : Fs wB w F p) (hs : id.length ≤ 100) (hq : q.ok) (hQ : QCells wB b 1 q A A4 c c4) (hR : QRow wB A q.vals) (hP : ReadsInt wB .u8 A4 q.paging.length q.paging) (hid : ReadsInt wB .u8 Ai id.length id) (k0 : wB.cell? ⟨b, 0, none⟩ = some (.slice Ai id.length ci)) (k1 : wB.cell? ⟨b, 10, none⟩ = some (.map none)) :
    Calls Tryz.prog 324 #[.pointer (some ⟨b, 0, none⟩), .pointer (some ⟨F, 0, none⟩), .int .i64 s] w fun e w' => e = .returned .nilIface ∧ Fr wB w' F p (frame p 10 s (be 2 id.length ++ id ++ qbytes q)) := by
  have hk0 : w.drew.cell? ⟨b, 0, none⟩ = some (.slice Ai id.length ci) := (hF.drew.1.cell (World.block_lt_of_cell? wB _ k0)).trans k0
  have HF := Lib.hid hF.drew
  have HQ : Hid (q.ok ∧ QCells wB b 1 q A A4 c c4 ∧ QRow wB A q.vals ∧ ReadsInt wB .u8 A4 q.paging.length q.paging ∧ wB.cell? ⟨b, 10, none⟩ = some (.map none) ∧ ReadsInt wB .u8 Ai id.length id) := ⟨hq, hQ, hR, hP, k1, hid⟩
  clear k0 k1 hF hq hQ hR hP hid
  go_enter Tryz.func324, Tryz.ntmps324
  go_upto_region 1 with (fail)
  refine start_ (n := 14) (S := fun w' => w'.cell? ⟨b, 0, none⟩ = some (.slice Ai id.length ci)) (ds := [12]) #[false, false, false, false, false, false, false, false, false, false, false, false, false, false] (by kernel_rfl) rfl rfl (hk0) (fun hHeld => ?_)
  refine e_o 0 ?_
  refine e_o 1 ?_
  refine e_o 2 ?_
  refine e_o 3 ?_
  refine e_o 4 ?_
  refine e_o 6 ?_
  refine e_o 7 ?_
  refine e_o 8 ?_
  refine e_o 9 ?_
  refine e_o 10 ?_
  refine e_o 11 ?_
  refine e_t 5 hHeld ?_
  refine last_ (i := 12) (N := some 19) #[true, true, true, true, true, true, true, true, true, true, true, true, true, false] rfl rfl (by kernel_rfl) (by decide) (fun K hK => ?_)
  refine goes_ Tryz.func325 (by kernel_rfl) rfl #[.pointer (some ⟨F, 0, none⟩), .int .i64 s, .slice Ai id.length ci, .pointer (some ⟨b, 1, none⟩), .pointer (some ⟨b, 10, none⟩)] (by rfl) rfl rfl (by simp only [List.map_toArray, List.map_cons, List.map_nil]; rfl) ?_
  with_reducible refine (execute_any wB F b 1 p s id Ai ci ⟨b, 10, none⟩ q A A4 c c4 _ hp HF.out hs HQ.out.1 HQ.out.2.2.2.2.1 HQ.out.2.2.2.2.2 HQ.out.2.1 HQ.out.2.2.1 HQ.out.2.2.2.1).mono ?_
  rintro e w3 ⟨rfl, hW3⟩
  refine ⟨_, rfl, ?_⟩
  refine hK.out _ _ ?_
  clear hK K
  refine norm_ (a' := ?_) ?_ ?_
  rotate_left
  · show Act.put _ (some 19) _ = _
    simp only [Act.put, List.setIfInBounds_toArray, List.set_cons_zero, List.set_cons_succ, i64_w, i32_w]
    rfl
  refine e_o 13 ?_
  refine done_ (by kernel_rfl) ?_
  go_wp2_with fail
  go_ret
  exact ⟨rfl, hW3⟩
/-- A framer that is being made. -/
def FN (w0 W : World) (F g : Nat) (cs : Array Value) : Prop := Below w0.heap.size w0 W ∧ w0.heap.size ≤ F ∧ W.heap[F]? = some (.cells cs 278 (0, 0)) ∧ W.ownsRow w0.heap.size 5 1 (.slice (some ⟨g, 0, none⟩) 0 128) 0 []
theorem FN.set {w0 W : World} {F g : Nat} {cs : Array Value} (h : FN w0 W F g cs) (i : Nat) (u : Value) : FN w0 (W.setCell ⟨F, i, none⟩ u) F g (cs.setIfInBounds i u) :=
  ⟨h.1.setCell h.2.1 _, h.2.1, blk_set h.2.2.1 i u, own_setCell h.2.2.2 (own_ne h.2.2.2 h.2.2.1 (by decide)) _⟩
theorem FN.at {w0 W : World} {F g : Nat} {cs : Array Value} (h : FN w0 W F g cs) (i : Nat) : W.cell? ⟨F, i, none⟩ = cs[i]? ∧ W.frozen? ⟨F, i, none⟩ = false := ⟨cell_of_row W F i _ _ _ h.2.2.1, blk_froz h.2.2.1⟩
theorem newFramer_any (w : World) (p : Int) (hp : p = 3 ∨ p = 4) :
    Calls Tryz.prog 118 #[.nilIface, .int .u8 p] w fun e w' => ∃ F, e = .returned (.pointer (some ⟨F, 0, none⟩)) ∧ Fs w w' F p := by
  obtain ⟨i0, hi, hz0, hz1, hz2⟩ := info_parts info5
  have hp5 : (p == 5) = false := by rcases hp with rfl | rfl <;> rfl
  have hand : bits BinOp.and IntKind.u8 p 127 = p := by rcases hp with rfl | rfl <;> rfl
  have hp2 : decide (2 < p) = true := by rcases hp with rfl | rfl <;> rfl
  clear hp
  go_enter Tryz.func118, Tryz.ntmps118
  go_upto_region 2 with (at_make; refine wpList_make_full _ rfl (.const (.int .i64 128)) (.const (.int .i64 128)) 23 rfl w.heap.size 5 i0 (.int .u8 0) 1 Tryz.underlying23 hi hz0 hz1 .i64 .i64 128 128 128 rfl rfl rfl rfl (by rw [hz2]; omega) (by simp only [maxLen]; omega) (Nat.le_refl _) ?_; intro w1 hown hgrow)
  have HO := Lib.hid hown
  have HG := Lib.hid hgrow
  clear hi hz0 hz1 hz2 hown hgrow
  generalize hg : w.heap.size = g at *
  have Hg := Lib.hid hg
  clear hg
  go_upto_region 12 with (fail)
  have hN : FN w (w1.alloc (Obj.cells #[Value.int IntKind.u8 0, Value.int IntKind.u8 0, Value.nilIface, Value.int IntKind.i64 0, Value.pointer none, Value.slice none 0 0, Value.slice (some { block := g, off := 0 }) 128 128, Value.slice (some { block := g, off := 0 }) 0 128, Value.map none] 278)) w1.heap.size g #[Value.int IntKind.u8 0, Value.int IntKind.u8 0, Value.nilIface, Value.int IntKind.i64 0, Value.pointer none, Value.slice none 0 0, Value.slice (some { block := g, off := 0 }) 128 128, Value.slice (some { block := g, off := 0 }) 0 128, Value.map none] := by
    have h1 : Below w.heap.size w w1 := (Below.refl _ _).grown HG.out (Nat.le_refl _) (by simp)
    refine ⟨below_alloc h1 _, h1.size, heap_alloc_new _ _, ?_⟩
    have := own_cut0 (HO.out.alloc (Obj.cells #[Value.int IntKind.u8 0, Value.int IntKind.u8 0, Value.nilIface, Value.int IntKind.i64 0, Value.pointer none, Value.slice none 0 0, Value.slice (some { block := g, off := 0 }) 128 128, Value.slice (some { block := g, off := 0 }) 0 128, Value.map none] 278))
    rw [Hg.out]
    exact this
  clear HO HG
  generalize w1.alloc _ = w2 at *
  generalize w1.heap.size = F at *
  have hc : w2.cell? ⟨F, 2, none⟩ = some (Value.nilIface) := (hN.at 2).1
  have hf : w2.frozen? ⟨F, 2, none⟩ = false := (hN.at 2).2
  have HN := Lib.hid (hN.set 2 .nilIface)
  clear hN
  go_upto_region 13 with (fail)
  generalize World.setCell w2 ⟨F, 2, none⟩ _ = w3 at *
  clear hc hf
  have hN : FN w w3 F g #[Value.int IntKind.u8 0, Value.int IntKind.u8 0, .nilIface, Value.int IntKind.i64 0, Value.pointer none, Value.slice none 0 0, Value.slice (some { block := g, off := 0 }) 128 128, Value.slice (some { block := g, off := 0 }) 0 128, Value.map none] := HN.out
  clear HN
  have hc : w3.cell? ⟨F, 0, none⟩ = some (Value.int IntKind.u8 0) := (hN.at 0).1
  have hf : w3.frozen? ⟨F, 0, none⟩ = false := (hN.at 0).2
  have HN := Lib.hid (hN.set 0 (.int .u8 p))
  clear hN
  go_upto_region 14 with (fail)
  generalize World.setCell w3 ⟨F, 0, none⟩ _ = w4 at *
  clear hc hf
  have hN : FN w w4 F g #[(.int .u8 p), Value.int IntKind.u8 0, .nilIface, Value.int IntKind.i64 0, Value.pointer none, Value.slice none 0 0, Value.slice (some { block := g, off := 0 }) 128 128, Value.slice (some { block := g, off := 0 }) 0 128, Value.map none] := HN.out
  clear HN
  have hc : w4.cell? ⟨F, 1, none⟩ = some (Value.int IntKind.u8 0) := (hN.at 1).1
  have hf : w4.frozen? ⟨F, 1, none⟩ = false := (hN.at 1).2
  have HN := Lib.hid (hN.set 1 (.int .u8 0))
  clear hN
  go_upto_region 15 with (fail)
  generalize World.setCell w4 ⟨F, 1, none⟩ _ = w5 at *
  clear hc hf
  have hN : FN w w5 F g #[(.int .u8 p), (.int .u8 0), .nilIface, Value.int IntKind.i64 0, Value.pointer none, Value.slice none 0 0, Value.slice (some { block := g, off := 0 }) 128 128, Value.slice (some { block := g, off := 0 }) 0 128, Value.map none] := HN.out
  clear HN
  have hc : w5.cell? ⟨F, 3, none⟩ = some (Value.int IntKind.i64 0) := (hN.at 3).1
  have hf : w5.frozen? ⟨F, 3, none⟩ = false := (hN.at 3).2
  have HN := Lib.hid (hN.set 3 (.int .i64 9))
  clear hN
  go_upto_region 16 with (fail)
  generalize World.setCell w5 ⟨F, 3, none⟩ _ = w6 at *
  clear hc hf
  have hN : FN w w6 F g #[(.int .u8 p), (.int .u8 0), .nilIface, (.int .i64 9), Value.pointer none, Value.slice none 0 0, Value.slice (some { block := g, off := 0 }) 128 128, Value.slice (some { block := g, off := 0 }) 0 128, Value.map none] := HN.out
  clear HN
  have hc : w6.cell? ⟨F, 4, none⟩ = some (Value.pointer none) := (hN.at 4).1
  have hf : w6.frozen? ⟨F, 4, none⟩ = false := (hN.at 4).2
  have HN := Lib.hid (hN.set 4 (.pointer none))
  clear hN
  go_upto_region 17 with (fail)
  generalize World.setCell w6 ⟨F, 4, none⟩ _ = w7 at *
  clear hc hf
  have hN : FN w w7 F g #[(.int .u8 p), (.int .u8 0), .nilIface, (.int .i64 9), (.pointer none), Value.slice none 0 0, Value.slice (some { block := g, off := 0 }) 128 128, Value.slice (some { block := g, off := 0 }) 0 128, Value.map none] := HN.out
  clear HN
  have hc : w7.cell? ⟨F, 5, none⟩ = some (Value.slice none 0 0) := (hN.at 5).1
  have hf : w7.frozen? ⟨F, 5, none⟩ = false := (hN.at 5).2
  have HN := Lib.hid (hN.set 5 (.slice none 0 0))
  clear hN
  go_upto_region 18 with (fail)
  generalize World.setCell w7 ⟨F, 5, none⟩ _ = w8 at *
  clear hc hf
  have hN : FN w w8 F g #[(.int .u8 p), (.int .u8 0), .nilIface, (.int .i64 9), (.pointer none), (.slice none 0 0), Value.slice (some { block := g, off := 0 }) 128 128, Value.slice (some { block := g, off := 0 }) 0 128, Value.map none] := HN.out
  clear HN
  go_wp2
  go_ret
  refine ⟨F, rfl, hN.1, hN.2.1, g, 128, _, hN.2.2.1, hN.2.2.2⟩
end Go.Proofs.YtammjbmfiakbnaaGreatDoor
