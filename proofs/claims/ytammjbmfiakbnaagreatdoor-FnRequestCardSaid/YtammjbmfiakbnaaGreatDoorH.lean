/-
  The framer's header: what writeHeader lays, what setLength and finish set. (Version 3 or 4; lengths below 200,000,000.) The parameters of a query as the framer writes them. (At most 20 values of at most 100 bytes; version 3 or 4.) 
-/
import Derived.Test.YtammjbmfiakbnaaGreatDoorB
import Derived.Deep.DeepCutAuto
import Derived.Deep.CutBlock
namespace Go.Proofs.YtammjbmfiakbnaaGreatDoor
set_option maxHeartbeats 2000000
set_option maxRecDepth 100000
set_option linter.unusedSimpArgs false
set_option linter.unusedVariables false
open Go.RowKit Go.Proofs.YtammjbmfiakbnaaGreatDoorW.PrintWords Go.Proofs.YtammjbmfiakbnaaGreatDoorW.PrintLast Go.Proofs.YtammjbmfiakbnaaGreatDoorW.PrintMore
/-- The header's bytes ahead of the length is set. -/
def hdr0 (p op stream : Int) : List Int := [p, 0, stream / 256 % 256, stream % 256, op, 0, 0, 0, 0]
theorem own_cut0 {w : World} {base g n c : Nat} {e : TypeId} {size : Nat} {xs : List Value} (h : w.ownsRow base e size (.slice (some ⟨g, 0, none⟩) n c) n xs) : w.ownsRow base e size (.slice (some ⟨g, 0, none⟩) 0 c) 0 [] := by
  rcases h.2 with ⟨h2, _⟩ | ⟨g', cap, cur, h2, h3, h4, h5, h6, h7, _⟩
  · cases h2
  · cases h2
    exact ⟨by simp, .inr ⟨g, c, cur, rfl, h3, h4, Nat.zero_le _, h6, h7, by simp⟩⟩
/-- A pointer's block beside the framer: a nil map of payloads. -/
def Ri (w : World) (o : Option Nat) : Prop := ∀ G, o = some G → w.heap[G]? = some (.cells #[.map none] 178 (0, 0))
theorem Ri.none_ (w : World) : Ri w none := fun G h => by cases h
theorem Ri.set {w : World} {o : Option Nat} {F : Nat} {cs : Array Value} (h : Ri w o) (hc : w.heap[F]? = some (.cells cs 278 (0, 0))) (i : Nat) (u : Value) : Ri (w.setCell ⟨F, i, none⟩ u) o :=
  fun G e => blk_far (h G e) (blk_ne (h G e) hc (by decide)) u
theorem Ri.put {w0 w0' w1 : World} {o : Option Nat} {F base n : Nat} {v : Value} {xs : List Value} {cs : Array Value} (h : Ri w0 o) (hst : ∀ (G : Nat) (b : Obj), w0.heap[G]? = some b → w0'.heap[G]? = some b) (ho : w0.ownsRow base 5 1 v n xs)
    (hg : w0'.grownBy w1 v.ownBlock) (hc : w1.heap[F]? = some (.cells cs 278 (0, 0))) (u : Value) : Ri (w1.setCell ⟨F, 7, none⟩ u) o :=
  Ri.set (fun G e => blk_grown (hst G _ (h G e)) hg (own_ne ho (h G e) (by decide))) hc 7 u
theorem writeHeader_any (wB : World) (F g c : Nat) (p op stream : Int) (rb : Value) (w : World) (o : Option Nat) (hR : Ri w o) (hp : 3 ≤ p) (hb : Below wB.heap.size wB w) (hF : wB.heap.size ≤ F)
    (hc : w.heap[F]? = some (.cells (frc p rb (.slice (some ⟨g, 0, none⟩) 0 c)) 278 (0, 0))) (ho : w.ownsRow wB.heap.size 5 1 (.slice (some ⟨g, 0, none⟩) 0 c) 0 []) :
    Calls Tryz.prog 278 #[.pointer (some ⟨F, 0, none⟩), .int .u8 0, .int .u8 op, .int .i64 stream] w fun e w' => e = .returned (.tuple #[]) ∧ Fr wB w' F p (hdr0 p op stream) ∧ Ri w' o := by
  have hc0 : w.cell? ⟨F, 7, none⟩ = some (.slice (some ⟨g, 0, none⟩) 0 c) := f_cell hc 7
  have hf0 := blk_froz (i := 7) hc
  have hset := own_setCell ho (own_ne ho hc (by decide)) (p := ⟨F, 7, none⟩) (.slice (some ⟨g, 0, none⟩) 0 c)
  have hbk := Lib.hid ((blk_set hc 7 (.slice (some ⟨g, 0, none⟩) 0 c)).trans rfl)
  have hbb := hb.setCell (p := ⟨F, 7, none⟩) hF (.slice (some ⟨g, 0, none⟩) 0 c)
  have hp2 : decide (2 < p) = true := decide_eq_true (by omega)
  have hRi := Lib.hid (hR.set hc 7 (.slice (some ⟨g, 0, none⟩) 0 c))
  clear hR
  clear hc hb ho
  go_enter Tryz.func278, Tryz.ntmps278
  go_upto_region 1 with (fail)
  generalize hw0 : w.setCell ⟨F, 7, none⟩ (.slice (some ⟨g, 0, none⟩) 0 c) = w0 at *
  generalize hv : (Value.slice (some ⟨g, 0, none⟩) 0 c) = v at *
  clear hw0 hv hc0 hf0
  have ho := hset
  have hc' : Hid (w0.heap[F]? = some (.cells (frc p rb v) 278 (0, 0))) := hbk
  have hsz : wB.heap.size ≤ w0.heap.size := hbb.size
  clear hset hbk
  refine start_ (n := 15) (S := fun w' => w'.cell? ⟨F, 7, none⟩ = some v ∧ w'.cell? ⟨F, 0, none⟩ = some (.int .u8 p)) (ds := [11, 14]) #[false, false, false, false, false, false, false, false, false, false, false, false, false, false, false] (by kernel_rfl) rfl rfl ⟨f_cell (blk_drew hc'.out) 7, f_cell (blk_drew hc'.out) 0⟩ (fun hHeld => ?_)
  refine e_o 0 ?_
  refine e_o 1 ?_
  refine e_o 2 ?_
  refine e_o 3 ?_
  refine e_o 5 ?_
  refine e_o 6 ?_
  refine e_o 7 ?_
  refine e_o 9 ?_
  refine e_t 4 hHeld ?_
  refine e_t 8 hHeld ?_
  refine one_ (i := 10) (N := some 26) #[true, true, true, true, true, true, true, true, true, true, true, false, false, false, false] rfl rfl (by kernel_rfl) (by decide) (fun K hK => ?_)
  refine value_ (w1 := ?_) (v := ?_) (by rfl) rfl ?_ ?_
  rotate_left 2
  · go_simp
    constructor
    · rfl
    · rfl
  refine hK.out _ _ ⟨f_cell (blk_drew (blk_alloc hc'.out _)) 7, f_cell (blk_drew (blk_alloc hc'.out _)) 0⟩ (fun hHeld => ?_)
  clear hK K
  refine norm_ (a' := ?_) ?_ ?_
  rotate_left
  · show Act.put _ (some 26) _ = _
    simp only [Act.put, List.setIfInBounds_toArray, List.set_cons_zero, List.set_cons_succ, i64_w, i32_w]
    rfl
  refine last_ (i := 11) (N := some 27) #[true, true, true, true, true, true, true, true, true, true, true, true, false, false, false] rfl rfl (by kernel_rfl) (by decide) (fun K hK => ?_)
  refine app_step (E := _) rfl (.tmp 20) (.tmp 26) 23 23 rfl v _ rfl rfl (ap_lit 23 _ Tryz.underlying23 v [] [p, 0] w0.heap.size 2 ((ho.alloc _).drew) (blk_drew (heap_alloc_new _ _)) rfl rfl (by simp; omega) (by simp)) ?_
  rintro v1 w1 ⟨hown, hgrow⟩
  have hbk1 := Lib.hid (blk_grown (blk_drew (blk_alloc hc'.out _)) hgrow (own_ne ho hc'.out (by decide)))
  have hc1 : w1.cell? ⟨F, 7, none⟩ = some v := f_cell hbk1.out 7
  have hf1 := blk_froz (i := 7) hbk1.out
  obtain ⟨A1, m1, c1, rfl⟩ := own_form hown
  refine hK.out _ _ ?_
  clear hK K
  refine norm_ (a' := ?_) ?_ ?_
  rotate_left
  · show Act.put _ (some 27) _ = _
    simp only [Act.put, List.setIfInBounds_toArray, List.set_cons_zero, List.set_cons_succ, i64_w, i32_w]
    rfl
  refine e_o 12 ?_
  refine e_o 13 ?_
  refine last_ (i := 14) (N := none) #[true, true, true, true, true, true, true, true, true, true, true, true, true, true, true] rfl rfl (by kernel_rfl) (by decide) (fun K hK => ?_)
  refine skip_ (w1 := ?_) (by rfl) rfl ?_ ?_
  rotate_left
  · go_simp
    rfl
  refine hK.out _ _ ?_
  clear hK K
  refine done_ (by kernel_rfl) ?_
  have hFrw2 := Fr.put_ (cs := []) (below_drew (hbb.alloc hsz _)) hF (blk_drew (blk_alloc hc'.out _)) ((ho.alloc _).drew) hgrow hown
  have hR2 := Ri.put hRi.out (fun G _ h => blk_drew (blk_alloc h _)) ho hgrow hbk1.out (.slice A1 m1 c1)
  clear hRi
  generalize World.setCell w1 ⟨F, 7, none⟩ _ = w2 at *
  clear hc' ho hbb hsz hbk1 hc1 hf1 hown hgrow
  obtain ⟨hbb, _, rbw2, vw2, hcw2, ho⟩ := hFrw2
  have hc' := Lib.hid hcw2
  have hsz : wB.heap.size ≤ w2.heap.size := hbb.size
  have hRi := Lib.hid hR2
  clear hR2
  have hk7 : w2.cell? ⟨F, 7, none⟩ = some vw2 := f_cell hcw2 7
  have hk0 : w2.cell? ⟨F, 0, none⟩ = some (.int .u8 p) := f_cell hcw2 0
  clear hcw2
  go_upto_region 5 with (at_builtin; refine app_list rfl (.tmp 39) (.tmp 45) 23 23 rfl vw2 _ rfl rfl (ap_lit 23 _ Tryz.underlying23 vw2 _ [stream / 256 % 256, stream % 256] w2.heap.size 2 (ho.alloc _) (heap_alloc_new _ _) rfl rfl (by simp; omega) (by simp)) ?_; rintro v1 w3 ⟨hown, hgrow⟩; have hbk1 := Lib.hid (blk_grown (blk_alloc hc'.out _) hgrow (own_ne ho hc'.out (by decide))); have hc1 : w3.cell? ⟨F, 7, none⟩ = some vw2 := f_cell hbk1.out 7; have hf1 := blk_froz (i := 7) hbk1.out; obtain ⟨A1, m1, c1, rfl⟩ := own_form hown)
  clear hk7 hk0
  have hFrw4 := Fr.put_ (hbb.alloc hsz _) hF (blk_alloc hc'.out _) (ho.alloc _) hgrow hown
  have hR2 := Ri.put hRi.out (fun G _ h => blk_alloc h _) ho hgrow hbk1.out (.slice A1 m1 c1)
  clear hRi
  generalize World.setCell w3 ⟨F, 7, none⟩ _ = w4 at *
  clear hc' ho hbb hsz hbk1 hc1 hf1 hown hgrow
  obtain ⟨hbb, _, rbw4, vw4, hcw4, ho⟩ := hFrw4
  have hc' := Lib.hid hcw4
  have hsz : wB.heap.size ≤ w4.heap.size := hbb.size
  have hRi := Lib.hid hR2
  clear hR2
  have hk7 : w4.cell? ⟨F, 7, none⟩ = some vw4 := f_cell hcw4 7
  clear hcw4
  go_wp2_with (at_builtin; refine app_list rfl (.tmp 64) (.tmp 66) 23 23 rfl vw4 _ rfl rfl (ap_lit 23 _ Tryz.underlying23 vw4 _ [op, 0, 0, 0, 0] w4.heap.size 5 (ho.alloc _) (heap_alloc_new _ _) rfl rfl (by simp; omega) (by simp)) ?_; rintro v1 w5 ⟨hown, hgrow⟩; have hbk1 := Lib.hid (blk_grown (blk_alloc hc'.out _) hgrow (own_ne ho hc'.out (by decide))); have hc1 : w5.cell? ⟨F, 7, none⟩ = some vw4 := f_cell hbk1.out 7; have hf1 := blk_froz (i := 7) hbk1.out; obtain ⟨A1, m1, c1, rfl⟩ := own_form hown)
  go_end0
  exact ⟨rfl, Fr.put_ (hbb.alloc hsz _) hF (blk_alloc hc'.out _) (ho.alloc _) hgrow hown, Ri.put hRi.out (fun G _ h => blk_alloc h _) ho hgrow hbk1.out (.slice A1 m1 c1)⟩
/-- Behind a store into the framer's buffer. -/
theorem Fr.store_ {wB w : World} {F g cap : Nat} {p x : Int} {bs : List Int} {rb : Value} (i : Nat) (hb : Below wB.heap.size wB w) (hF : wB.heap.size ≤ F) (hc : w.heap[F]? = some (.cells (frc p rb (.slice (some ⟨g, 0, none⟩) bs.length cap)) 278 (0, 0)))
    (ho : w.ownsRow wB.heap.size 5 1 (.slice (some ⟨g, 0, none⟩) bs.length cap) bs.length (nums .u8 bs)) (hg : wB.heap.size ≤ g) :
    Below wB.heap.size wB (w.setCell ⟨g, i, none⟩ (.int .u8 x)) ∧ (w.setCell ⟨g, i, none⟩ (.int .u8 x)).heap[F]? = some (.cells (frc p rb (.slice (some ⟨g, 0, none⟩) bs.length cap)) 278 (0, 0)) ∧
    (w.setCell ⟨g, i, none⟩ (.int .u8 x)).ownsRow wB.heap.size 5 1 (.slice (some ⟨g, 0, none⟩) bs.length cap) bs.length (nums .u8 (bs.set i x)) := by
  have hne : F ≠ g := fun e => own_ne ho hc (by decide) (by rw [e]; rfl)
  refine ⟨hb.setCell hg _, ?_, ?_⟩
  · exact (Below.heap_setCell w ⟨g, i, none⟩ _ F hne).trans hc
  · have := (own_store ho (i : Int) x).1
    rwa [Int.toNat_natCast] at this
theorem setLength_any (wB : World) (F : Nat) (p n : Int) (bs : List Int) (w0 : World) (hp : 3 ≤ p) (h9 : 9 ≤ bs.length) (hlen : bs.length ≤ 1000000000) (hW : Fr wB w0 F p bs) :
    Calls Tryz.prog 284 #[.pointer (some ⟨F, 0, none⟩), .int .i64 n] w0 fun e w' => e = .returned (.tuple #[]) ∧ Fr wB w' F p ((((bs.set 5 (n / 16777216 % 256)).set 6 (n / 65536 % 256)).set 7 (n / 256 % 256)).set 8 (n % 256)) := by
  obtain ⟨hb, hF, rb, v, hc, ho⟩ := hW
  obtain ⟨g, cap, rfl, hg, _⟩ := ho.form (by omega)
  have hp2 : decide (2 < p) = true := decide_eq_true (by omega)
  have hk0 : w0.cell? ⟨F, 0, none⟩ = some (.int .u8 p) := f_cell hc 0
  have hi8 : (8 : Int) < (bs.length : Int) := by omega
  have hi7 : (7 : Int) < (bs.length : Int) := by omega
  have hi6 : (6 : Int) < (bs.length : Int) := by omega
  have hi5 : (5 : Int) < (bs.length : Int) := by omega
  have hst : ∀ (w : World) (b : List Int) (i : Nat) (x : Int), b.length = bs.length → i < bs.length → Below wB.heap.size wB w → w.heap[F]? = some (.cells (frc p rb (.slice (some ⟨g, 0, none⟩) bs.length cap)) 278 (0, 0)) → w.ownsRow wB.heap.size 5 1 (.slice (some ⟨g, 0, none⟩) bs.length cap) bs.length (nums .u8 b) →
      (w.cell? ⟨F, 7, none⟩ = some (.slice (some ⟨g, 0, none⟩) bs.length cap) ∧ (∃ y, w.cell? ⟨g, i, none⟩ = some (.int .u8 y)) ∧ w.frozen? ⟨g, i, none⟩ = false) ∧ (b.set i x).length = bs.length ∧ Below wB.heap.size wB (w.setCell ⟨g, i, none⟩ (.int .u8 x)) ∧ (w.setCell ⟨g, i, none⟩ (.int .u8 x)).heap[F]? = some (.cells (frc p rb (.slice (some ⟨g, 0, none⟩) bs.length cap)) 278 (0, 0)) ∧ (w.setCell ⟨g, i, none⟩ (.int .u8 x)).ownsRow wB.heap.size 5 1 (.slice (some ⟨g, 0, none⟩) bs.length cap) bs.length (nums .u8 (b.set i x)) := by
    intro w b i x hbl hi hb hc ho
    have h1 := own_at ho (i : Int) (by omega) (by omega)
    rw [Int.toNat_natCast] at h1
    refine ⟨⟨f_cell hc 7, ⟨_, h1.1⟩, h1.2⟩, by rw [List.length_set]; exact hbl, ?_⟩
    have := Fr.store_ (x := x) i hb hF (bs := b) (by rw [hbl]; exact hc) (by rw [hbl]; exact ho) hg
    rw [hbl] at this
    exact this
  have HS := Lib.hid hst
  clear hst
  have HL : Hid (bs.length = bs.length) := Lib.hid rfl
  go_enter Tryz.func284, Tryz.ntmps284
  obtain ⟨⟨hk7, ⟨y5, hkc⟩, hkf⟩, hL2, hb2, hc2, ho2⟩ := HS.out w0 (bs) 5 (n / 16777216 % 256) HL.out (by omega) hb hc ho
  clear HL hb hc ho
  have HL := Lib.hid hL2
  have hb := Lib.hid hb2
  have hc := Lib.hid hc2
  have ho := Lib.hid ho2
  clear hL2 hb2 hc2 ho2
  go_upto_region 4 with (fail)
  generalize World.setCell w0 ⟨g, 5, none⟩ _ = w1 at *
  clear hk7 hkc hkf
  replace hb := hb.out
  replace hc := hc.out
  replace ho := ho.out
  clear hk0
  obtain ⟨⟨hk7, ⟨y6, hkc⟩, hkf⟩, hL2, hb2, hc2, ho2⟩ := HS.out w1 ((bs).set 5 (n / 16777216 % 256)) 6 (n / 65536 % 256) HL.out (by omega) hb hc ho
  clear HL hb hc ho
  have HL := Lib.hid hL2
  have hb := Lib.hid hb2
  have hc := Lib.hid hc2
  have ho := Lib.hid ho2
  clear hL2 hb2 hc2 ho2
  go_upto_region 5 with (fail)
  generalize World.setCell w1 ⟨g, 6, none⟩ _ = w2 at *
  clear hk7 hkc hkf
  replace hb := hb.out
  replace hc := hc.out
  replace ho := ho.out
  obtain ⟨⟨hk7, ⟨y7, hkc⟩, hkf⟩, hL2, hb2, hc2, ho2⟩ := HS.out w2 (((bs).set 5 (n / 16777216 % 256)).set 6 (n / 65536 % 256)) 7 (n / 256 % 256) HL.out (by omega) hb hc ho
  clear HL hb hc ho
  have HL := Lib.hid hL2
  have hb := Lib.hid hb2
  have hc := Lib.hid hc2
  have ho := Lib.hid ho2
  clear hL2 hb2 hc2 ho2
  go_upto_region 6 with (fail)
  generalize World.setCell w2 ⟨g, 7, none⟩ _ = w3 at *
  clear hk7 hkc hkf
  replace hb := hb.out
  replace hc := hc.out
  replace ho := ho.out
  obtain ⟨⟨hk7, ⟨y8, hkc⟩, hkf⟩, hL2, hb2, hc2, ho2⟩ := HS.out w3 ((((bs).set 5 (n / 16777216 % 256)).set 6 (n / 65536 % 256)).set 7 (n / 256 % 256)) 8 (n % 256) HL.out (by omega) hb hc ho
  clear HL hb hc ho
  have HL := Lib.hid hL2
  have hb := Lib.hid hb2
  have hc := Lib.hid hc2
  have ho := Lib.hid ho2
  clear hL2 hb2 hc2 ho2
  go_wp2
  go_end0
  exact ⟨rfl, hb.out, hF, rb, _, hc.out, by rw [HL.out]; exact ho.out⟩
/-- What finish makes of a frame's bytes: the length of what stands behind the nine bytes of the header. -/
def fin (bs : List Int) : List Int := (((bs.set 5 (((bs.length : Int) - 9) / 16777216 % 256)).set 6 (((bs.length : Int) - 9) / 65536 % 256)).set 7 (((bs.length : Int) - 9) / 256 % 256)).set 8 (((bs.length : Int) - 9) % 256)
theorem finish_any (wB : World) (F : Nat) (p : Int) (bs : List Int) (w0 : World) (hp : 3 ≤ p) (h9 : 9 ≤ bs.length) (hlen : bs.length ≤ 200000000) (h1 : rd bs 1 = 0) (hW : Fr wB w0 F p bs) :
    Calls Tryz.prog 280 #[.pointer (some ⟨F, 0, none⟩)] w0 fun e w' => e = .returned .nilIface ∧ Fr wB w' F p (fin bs) := by
  have HW := Lib.hid hW
  obtain ⟨hb, hF, rb, v, hc, ho⟩ := hW
  obtain ⟨g, cap, rfl, hg, _⟩ := ho.form (by omega)
  have hk7 : w0.cell? ⟨F, 7, none⟩ = some (.slice (some ⟨g, 0, none⟩) bs.length cap) := f_cell hc 7
  have hkc : w0.cell? ⟨g, 1, none⟩ = some (.int .u8 0) := by
    have := (own_at ho 1 (by omega) (by omega)).1
    rw [h1] at this
    exact this
  have hi1 : (1 : Int) < (bs.length : Int) := by omega
  have hc' := Lib.hid hc
  clear hc hb h1
  go_enter Tryz.func280, Tryz.ntmps280
  go_upto_region 11 with (fail)
  have hF7 : w0.drew.cell? ⟨F, 7, none⟩ = some (.slice (some ⟨g, 0, none⟩) bs.length cap) := f_cell (blk_drew hc'.out) 7
  refine start_ (n := 11) (S := fun w' => w'.cell? ⟨F, 7, none⟩ = some (.slice (some ⟨g, 0, none⟩) bs.length cap) ∧ w'.cell? ⟨F, 3, none⟩ = some (.int .i64 9)) (ds := []) #[false, false, false, false, false, false, false, false, false, false, false] (by kernel_rfl) rfl rfl ⟨f_cell (blk_drew hc'.out) 7, f_cell (blk_drew hc'.out) 3⟩ (fun hHeld => ?_)
  refine e_o 0 ?_
  refine e_o 1 ?_
  refine e_o 2 ?_
  refine e_o 5 ?_
  refine e_o 6 ?_
  refine e_o 7 ?_
  refine e_t 3 hHeld ?_
  refine e_o 4 ?_
  refine e_t 8 hHeld ?_
  refine e_o 9 ?_
  refine e_o 10 ?_
  refine done_ (by kernel_rfl) ?_
  clear hF7 hk7 hkc hi1
  go_wp2_with fail
  refine (setLength_any wB F p _ bs _ hp h9 (by omega) (HW.out.drew)).mono ?_
  rintro e w1 ⟨rfl, hW1⟩
  go_wp2_with fail
  go_ret
  have hw : wrap64 ((bs.length : Int) - 9) = (bs.length : Int) - 9 := by unfold wrap64; omega
  rw [hw] at hW1
  exact ⟨rfl, hW1⟩
/-- A value that is bound: nothing or bytes, a name, set or not. -/
structure QV where
  value : Option (List Int)
  name : ByteArray
  unset : Bool
/-- Bytes that are nil or not, as a value. -/
def DatR (w : World) (v : Value) : Option (List Int) → Prop
  | none => v = .slice none 0 0
  | some l => ∃ ad c, v = .slice (some ad) l.length c ∧ ReadsInt w .u8 (some ad) l.length l
/-- A row of such values. -/
def QRow (w : World) (A : Option Addr) (xs : List QV) : Prop := 0 < xs.length → ∃ g, A = some ⟨g, 0, none⟩ ∧ ∀ i x, xs[i]? = some x → ∃ v, DatR w v x.value ∧ w.cell? ⟨g, i * 3, none⟩ = some v ∧ w.cell? ⟨g, i * 3 + 1, none⟩ = some (.string x.name) ∧ w.cell? ⟨g, i * 3 + 2, none⟩ = some (.bool x.unset)
/-- The parameters of a query. -/
structure QP where
  cons : Int
  skip : Bool
  vals : List QV
  page : Int
  paging : List Int
  serial : Int
  hasT : Bool
  t : Int
def bit (b : Bool) (k : Int) : Int := if b = true then k else 0
theorem bit_t {p : Prop} [Decidable p] (h : p) (k : Int) : bit (decide p) k = k := by simp [bit, h]
theorem bit_f {p : Prop} [Decidable p] (h : ¬ p) (k : Int) : bit (decide p) k = 0 := by simp [bit, h]
theorem bit_01 (b : Bool) (k : Int) : bit b k = 0 ∨ bit b k = k := by unfold bit; split <;> simp
def named (l : List QV) : Bool := match l with | [] => false | x :: _ => !x.name.toList.isEmpty
def QP.flags (q : QP) : Int := bit (decide (0 < q.vals.length)) 1 + bit (decide (q.skip = true)) 2 + bit (decide (0 < q.page)) 4 + bit (decide (0 < q.paging.length)) 8 + bit (decide (0 < q.serial)) 16 + bit (decide (q.hasT = true)) 32 + bit (decide (named q.vals = true)) 64
/-- The bytes of a bound value. -/
def vbytes (nm : Bool) (x : QV) : List Int := (if nm = true then be 2 x.name.size ++ bytesOf x.name else []) ++ (if x.unset = true then be 4 (-2) else match x.value with | none => be 4 (-1) | some l => be 4 l.length ++ l)
theorem flat_snoc {α : Type} (f : α → List Int) (l : List α) (i : Nat) (x : α) (h : l[i]? = some x) : (l.take (i + 1)).flatMap f = (l.take i).flatMap f ++ f x := by
  obtain ⟨hi, rfl⟩ := List.getElem?_eq_some_iff.1 h
  rw [List.take_succ_eq_append_getElem hi, List.flatMap_append]
  simp
theorem flat_le {α : Type} (f : α → List Int) (m : Nat) (l : List α) (h : ∀ x ∈ l, (f x).length ≤ m) : (l.flatMap f).length ≤ l.length * m := by
  induction l with
  | nil => simp
  | cons x l ih =>
    have h1 := h x (by simp)
    have h2 := ih (fun y hy => h y (by simp [hy]))
    simp only [List.flatMap_cons, List.length_append, List.length_cons, Nat.add_mul]
    omega
def opt_ (p : Prop) [Decidable p] (l : List Int) : List Int := if p then l else []
theorem opt_le (p : Prop) [Decidable p] (l : List Int) : (opt_ p l).length ≤ l.length := by unfold opt_; split <;> simp
theorem opt_t {p : Prop} [Decidable p] (h : p) (l : List Int) : opt_ p l = l := if_pos h
theorem opt_f {p : Prop} [Decidable p] (h : ¬ p) (l : List Int) : opt_ p l = [] := if_neg h
/-- The bytes of a query's parameters. -/
def qbytes (q : QP) : List Int := be 2 q.cons ++ [q.flags] ++ opt_ (0 < q.vals.length) (be 2 q.vals.length ++ q.vals.flatMap (vbytes (named q.vals))) ++ opt_ (0 < q.page) (be 4 q.page) ++ opt_ (0 < q.paging.length) (be 4 q.paging.length ++ q.paging) ++ opt_ (0 < q.serial) (be 2 q.serial) ++ opt_ (q.hasT = true) (be 8 q.t)
/-- Small enough. -/
def QV.ok (x : QV) : Prop := x.name.size ≤ 100 ∧ ∀ l, x.value = some l → l.length ≤ 100
def QP.ok (q : QP) : Prop := q.vals.length ≤ 20 ∧ (∀ x ∈ q.vals, x.ok) ∧ 0 ≤ q.page ∧ q.page ≤ 2147483647 ∧ q.paging.length ≤ 100 ∧ 0 ≤ q.serial
theorem vbytes_le (nm : Bool) (x : QV) (h : x.ok) : (vbytes nm x).length ≤ 300 := by
  unfold vbytes
  have h1 := h.1
  have h2 : (if nm = true then be 2 x.name.size ++ bytesOf x.name else []).length ≤ 102 := by split <;> simp [be_length, bytesOf_length]; omega
  have h3 : (if x.unset = true then be 4 (-2) else match x.value with | none => be 4 (-1) | some l => be 4 l.length ++ l).length ≤ 104 := by
    split
    · simp [be_length]
    · cases hv : x.value with
      | none => simp [be_length]
      | some l => have := h.2 l hv; simp [be_length]; omega
  rw [List.length_append]
  omega
theorem or_2 (x : Int) (h : x = 0 ∨ x = 1) : bits BinOp.or IntKind.u8 x 2 = x + 2 := by rcases h with rfl | rfl <;> rfl
theorem bits_or (x k : Int) (m : Nat) (hm : m = 2 ∨ m = 4 ∨ m = 8 ∨ m = 16 ∨ m = 32 ∨ m = 64) (hk : k = m) (h0 : 0 ≤ x) (h1 : x < m) : bits BinOp.or IntKind.u8 x k = x + k := by
  obtain ⟨n, rfl⟩ := Int.eq_ofNat_of_zero_le h0
  have hn : n < m := by omega
  subst hk
  rcases hm with rfl | rfl | rfl | rfl | rfl | rfl
  · exact (by decide : ∀ n : Fin 2, bits BinOp.or IntKind.u8 ((n : Nat) : Int) ((2 : Nat) : Int) = ((n : Nat) : Int) + ((2 : Nat) : Int)) ⟨n, hn⟩
  · exact (by decide : ∀ n : Fin 4, bits BinOp.or IntKind.u8 ((n : Nat) : Int) ((4 : Nat) : Int) = ((n : Nat) : Int) + ((4 : Nat) : Int)) ⟨n, hn⟩
  · exact (by decide : ∀ n : Fin 8, bits BinOp.or IntKind.u8 ((n : Nat) : Int) ((8 : Nat) : Int) = ((n : Nat) : Int) + ((8 : Nat) : Int)) ⟨n, hn⟩
  · exact (by decide : ∀ n : Fin 16, bits BinOp.or IntKind.u8 ((n : Nat) : Int) ((16 : Nat) : Int) = ((n : Nat) : Int) + ((16 : Nat) : Int)) ⟨n, hn⟩
  · exact (by decide : ∀ n : Fin 32, bits BinOp.or IntKind.u8 ((n : Nat) : Int) ((32 : Nat) : Int) = ((n : Nat) : Int) + ((32 : Nat) : Int)) ⟨n, hn⟩
  · exact (by decide : ∀ n : Fin 64, bits BinOp.or IntKind.u8 ((n : Nat) : Int) ((64 : Nat) : Int) = ((n : Nat) : Int) + ((64 : Nat) : Int)) ⟨n, hn⟩
/-- The cells of a query's parameters. -/
def QCells (W : World) (b o : Nat) (q : QP) (A A4 : Option Addr) (c c4 : Nat) : Prop := W.cell? ⟨b, o, none⟩ = some (.int .u16 q.cons) ∧ W.cell? ⟨b, o + 1, none⟩ = some (.bool q.skip) ∧ W.cell? ⟨b, o + 2, none⟩ = some (.slice A q.vals.length c) ∧ W.cell? ⟨b, o + 3, none⟩ = some (.int .i64 q.page) ∧ W.cell? ⟨b, o + 4, none⟩ = some (.slice A4 q.paging.length c4) ∧ W.cell? ⟨b, o + 5, none⟩ = some (.int .u16 q.serial) ∧ W.cell? ⟨b, o + 6, none⟩ = some (.bool q.hasT) ∧ W.cell? ⟨b, o + 7, none⟩ = some (.int .i64 q.t) ∧ W.cell? ⟨b, o + 8, none⟩ = some (.string ⟨#[]⟩)
theorem QCells.later {wB W : World} {b o : Nat} {q : QP} {A A4 : Option Addr} {c c4 : Nat} (h : QCells wB b o q A A4 c c4) (hb : Below wB.heap.size wB W) : QCells W b o q A A4 c c4 := by
  have hbl : b < wB.heap.size := World.block_lt_of_cell? wB _ h.1
  have hh : ∀ i, W.cell? ⟨b, i, none⟩ = wB.cell? ⟨b, i, none⟩ := fun i => hb.cell (p := ⟨b, i, none⟩) hbl
  unfold QCells
  simp only [hh]
  exact h
/-- The k-th statement of a body. -/
def nth : Nat → Code → Code
  | 0, .seq a _ => a
  | 0, c => c
  | k + 1, .seq _ b => nth k b
  | _ + 1, c => c
/-- What stands behind the first k statements of a body. -/
def tl : Nat → Code → Code
  | 0, c => c
  | k + 1, .seq _ b => tl k b
  | _ + 1, c => c
theorem frame_open (n : Nat) (a : Act) (hd : a.defers = []) (hs : a.tmps.size = n) : a = ⟨((List.range n).map fun t => a.tmps.getD t undef).toArray, []⟩ := by
  obtain ⟨xs, ds⟩ := a
  simp only at hd hs
  subst hd hs
  congr 1
  apply Array.ext
  · simp
  · intro i h1 h2
    simp [Array.getD, h1]
/-- The slots of the framer's writeQueryParams that are known between its statements. -/
def I311 (F b o : Nat) (v4 v5 : Value) (a : Act) : Prop := a.defers = [] ∧ a.tmps.size = 226 ∧ a.tmps.getD 0 undef = .pointer (some ⟨F, 0, none⟩) ∧ a.tmps.getD 1 undef = .pointer (some ⟨b, o, none⟩) ∧ a.tmps.getD 4 undef = v4 ∧ a.tmps.getD 5 undef = v5
theorem I311.open_ {F b o : Nat} {v4 v5 : Value} {a : Act} (h : I311 F b o v4 v5 a) : ∃ g : Nat → Value, a = ⟨#[.pointer (some ⟨F, 0, none⟩), .pointer (some ⟨b, o, none⟩), g 2, g 3, v4, v5, g 6, g 7, g 8, g 9, g 10, g 11, g 12, g 13, g 14, g 15, g 16, g 17, g 18, g 19, g 20, g 21, g 22, g 23, g 24, g 25, g 26, g 27, g 28, g 29, g 30, g 31, g 32, g 33, g 34, g 35, g 36, g 37, g 38, g 39, g 40, g 41, g 42, g 43, g 44, g 45, g 46, g 47, g 48, g 49, g 50, g 51, g 52, g 53, g 54, g 55, g 56, g 57, g 58, g 59, g 60, g 61, g 62, g 63, g 64, g 65, g 66, g 67, g 68, g 69, g 70, g 71, g 72, g 73, g 74, g 75, g 76, g 77, g 78, g 79, g 80, g 81, g 82, g 83, g 84, g 85, g 86, g 87, g 88, g 89, g 90, g 91, g 92, g 93, g 94, g 95, g 96, g 97, g 98, g 99, g 100, g 101, g 102, g 103, g 104, g 105, g 106, g 107, g 108, g 109, g 110, g 111, g 112, g 113, g 114, g 115, g 116, g 117, g 118, g 119, g 120, g 121, g 122, g 123, g 124, g 125, g 126, g 127, g 128, g 129, g 130, g 131, g 132, g 133, g 134, g 135, g 136, g 137, g 138, g 139, g 140, g 141, g 142, g 143, g 144, g 145, g 146, g 147, g 148, g 149, g 150, g 151, g 152, g 153, g 154, g 155, g 156, g 157, g 158, g 159, g 160, g 161, g 162, g 163, g 164, g 165, g 166, g 167, g 168, g 169, g 170, g 171, g 172, g 173, g 174, g 175, g 176, g 177, g 178, g 179, g 180, g 181, g 182, g 183, g 184, g 185, g 186, g 187, g 188, g 189, g 190, g 191, g 192, g 193, g 194, g 195, g 196, g 197, g 198, g 199, g 200, g 201, g 202, g 203, g 204, g 205, g 206, g 207, g 208, g 209, g 210, g 211, g 212, g 213, g 214, g 215, g 216, g 217, g 218, g 219, g 220, g 221, g 222, g 223, g 224, g 225], []⟩ := by
  obtain ⟨hd, hs, h0, h1, h4, h5⟩ := h
  refine ⟨fun t => a.tmps.getD t undef, ?_⟩
  have e := frame_open 226 a hd hs
  generalize hg : (fun t => a.tmps.getD t undef) = g at e
  have g0 : g 0 = .pointer (some ⟨F, 0, none⟩) := by rw [← hg]; exact h0
  have g1 : g 1 = .pointer (some ⟨b, o, none⟩) := by rw [← hg]; exact h1
  have g4 : g 4 = v4 := by rw [← hg]; exact h4
  have g5 : g 5 = v5 := by rw [← hg]; exact h5
  have e2 : ((List.range 226).map g).toArray = #[g 0, g 1, g 2, g 3, g 4, g 5, g 6, g 7, g 8, g 9, g 10, g 11, g 12, g 13, g 14, g 15, g 16, g 17, g 18, g 19, g 20, g 21, g 22, g 23, g 24, g 25, g 26, g 27, g 28, g 29, g 30, g 31, g 32, g 33, g 34, g 35, g 36, g 37, g 38, g 39, g 40, g 41, g 42, g 43, g 44, g 45, g 46, g 47, g 48, g 49, g 50, g 51, g 52, g 53, g 54, g 55, g 56, g 57, g 58, g 59, g 60, g 61, g 62, g 63, g 64, g 65, g 66, g 67, g 68, g 69, g 70, g 71, g 72, g 73, g 74, g 75, g 76, g 77, g 78, g 79, g 80, g 81, g 82, g 83, g 84, g 85, g 86, g 87, g 88, g 89, g 90, g 91, g 92, g 93, g 94, g 95, g 96, g 97, g 98, g 99, g 100, g 101, g 102, g 103, g 104, g 105, g 106, g 107, g 108, g 109, g 110, g 111, g 112, g 113, g 114, g 115, g 116, g 117, g 118, g 119, g 120, g 121, g 122, g 123, g 124, g 125, g 126, g 127, g 128, g 129, g 130, g 131, g 132, g 133, g 134, g 135, g 136, g 137, g 138, g 139, g 140, g 141, g 142, g 143, g 144, g 145, g 146, g 147, g 148, g 149, g 150, g 151, g 152, g 153, g 154, g 155, g 156, g 157, g 158, g 159, g 160, g 161, g 162, g 163, g 164, g 165, g 166, g 167, g 168, g 169, g 170, g 171, g 172, g 173, g 174, g 175, g 176, g 177, g 178, g 179, g 180, g 181, g 182, g 183, g 184, g 185, g 186, g 187, g 188, g 189, g 190, g 191, g 192, g 193, g 194, g 195, g 196, g 197, g 198, g 199, g 200, g 201, g 202, g 203, g 204, g 205, g 206, g 207, g 208, g 209, g 210, g 211, g 212, g 213, g 214, g 215, g 216, g 217, g 218, g 219, g 220, g 221, g 222, g 223, g 224, g 225] := rfl
  rw [g0, g1, g4, g5] at e2
  rw [e, e2]
noncomputable def c311 (k : Nat) : Code := nth k (Tryz.f311.body.getD .skip)
noncomputable def t311 (k : Nat) : Code := tl k (Tryz.f311.body.getD .skip)
theorem q_0 {Q : Exit → Act → World → Prop} {wB w : World} {F b o : Nat} {p : Int} {bs : List Int} {q : QP} {A A4 : Option Addr} {c c4 : Nat} {a : Act} {v4 v5 : Value} (hp : p = 3 ∨ p = 4) (hW : Fr wB w F p bs) (hQ : QCells wB b o q A A4 c c4) (hl : bs.length + 2 ≤ 1000000000) (hI : I311 F b o v4 v5 a)
    (h : ∀ a' w', I311 F b o v4 v5 a' → Fr wB w' F p (bs ++ be 2 q.cons) → Q .normal a' w') : Code.wp Tryz.prog (c311 0) Q a w := by
  obtain ⟨k0, k1, k2, k3, k4, k5, k6, k7, k8⟩ := hQ.later hW.1
  have kp : w.cell? ⟨F, 0, none⟩ = some (.int .u8 p) := by
    obtain ⟨_, _, rb, v, hc, _⟩ := hW
    exact f_cell hc 0
  have hp1 : (p == 1) = false := by rcases hp with rfl | rfl <;> rfl
  have hp2 : decide (2 < p) = true := by rcases hp with rfl | rfl <;> rfl
  have hp4 : decide (4 < p) = false := by rcases hp with rfl | rfl <;> rfl
  clear hp
  obtain ⟨g, rfl⟩ := hI.open_
  clear hI
  conv => arg 2; whnf
  go_wp2_with (go_at_call 314; refine (writeConsistency_any wB F p bs _ _ hl hW).mono ?_; rintro e w1 ⟨rfl, hW1⟩)
  exact h _ _ ⟨rfl, rfl, rfl, rfl, rfl, rfl⟩ hW1
theorem q_1 {Q : Exit → Act → World → Prop} {wB w : World} {F b o : Nat} {p : Int} {bs : List Int} {q : QP} {A A4 : Option Addr} {c c4 : Nat} {a : Act} {v4 v5 : Value} (hp : p = 3 ∨ p = 4) (hW : Fr wB w F p bs) (hQ : QCells wB b o q A A4 c c4) (hI : I311 F b o v4 v5 a)
    (h : ∀ a', I311 F b o v4 v5 a' → Q .normal a' w) : Code.wp Tryz.prog (c311 1) Q a w := by
  obtain ⟨k0, k1, k2, k3, k4, k5, k6, k7, k8⟩ := hQ.later hW.1
  have kp : w.cell? ⟨F, 0, none⟩ = some (.int .u8 p) := by
    obtain ⟨_, _, rb, v, hc, _⟩ := hW
    exact f_cell hc 0
  have hp1 : (p == 1) = false := by rcases hp with rfl | rfl <;> rfl
  have hp2 : decide (2 < p) = true := by rcases hp with rfl | rfl <;> rfl
  have hp4 : decide (4 < p) = false := by rcases hp with rfl | rfl <;> rfl
  clear hp
  obtain ⟨g, rfl⟩ := hI.open_
  clear hI
  conv => arg 2; whnf
  go_wp2
  exact ⟨rfl, rfl, rfl, rfl, rfl, rfl⟩
theorem q_2 {Q : Exit → Act → World → Prop} {wB w : World} {F b o : Nat} {p : Int} {bs : List Int} {q : QP} {A A4 : Option Addr} {c c4 : Nat} {a : Act} {v4 v5 : Value} (hp : p = 3 ∨ p = 4) (hW : Fr wB w F p bs) (hQ : QCells wB b o q A A4 c c4) (hI : I311 F b o v4 v5 a)
    (h : ∀ a', I311 F b o (.int .u8 0) v5 a' → Q .normal a' w) : Code.wp Tryz.prog (c311 2) Q a w := by
  obtain ⟨k0, k1, k2, k3, k4, k5, k6, k7, k8⟩ := hQ.later hW.1
  have kp : w.cell? ⟨F, 0, none⟩ = some (.int .u8 p) := by
    obtain ⟨_, _, rb, v, hc, _⟩ := hW
    exact f_cell hc 0
  have hp1 : (p == 1) = false := by rcases hp with rfl | rfl <;> rfl
  have hp2 : decide (2 < p) = true := by rcases hp with rfl | rfl <;> rfl
  have hp4 : decide (4 < p) = false := by rcases hp with rfl | rfl <;> rfl
  clear hp
  obtain ⟨g, rfl⟩ := hI.open_
  clear hI
  conv => arg 2; whnf
  go_wp2
  exact ⟨rfl, rfl, rfl, rfl, rfl, rfl⟩
theorem q_3 {Q : Exit → Act → World → Prop} {wB w : World} {F b o : Nat} {p : Int} {bs : List Int} {q : QP} {A A4 : Option Addr} {c c4 : Nat} {a : Act} {v4 v5 : Value} (hp : p = 3 ∨ p = 4) (hW : Fr wB w F p bs) (hQ : QCells wB b o q A A4 c c4) {f : Int} (hf : bits BinOp.or IntKind.u8 f 1 = f + 1) (hI : I311 F b o (.int .u8 f) v5 a)
    (h : ∀ a', I311 F b o (.int .u8 (f + bit (decide (0 < q.vals.length)) 1)) v5 a' → Q .normal a' w) : Code.wp Tryz.prog (c311 3) Q a w := by
  obtain ⟨k0, k1, k2, k3, k4, k5, k6, k7, k8⟩ := hQ.later hW.1
  have kp : w.cell? ⟨F, 0, none⟩ = some (.int .u8 p) := by
    obtain ⟨_, _, rb, v, hc, _⟩ := hW
    exact f_cell hc 0
  have hp1 : (p == 1) = false := by rcases hp with rfl | rfl <;> rfl
  have hp2 : decide (2 < p) = true := by rcases hp with rfl | rfl <;> rfl
  have hp4 : decide (4 < p) = false := by rcases hp with rfl | rfl <;> rfl
  clear hp
  obtain ⟨g, rfl⟩ := hI.open_
  clear hI
  conv => arg 2; whnf
  go_wp2
  all_goals
    refine ⟨rfl, rfl, rfl, rfl, ?_, rfl⟩
    first | (rw [bit_t (by first | assumption | omega)]; rfl) | (rw [bit_f (by first | omega | simp [*]), Int.add_zero]; rfl)
theorem q_4 {Q : Exit → Act → World → Prop} {wB w : World} {F b o : Nat} {p : Int} {bs : List Int} {q : QP} {A A4 : Option Addr} {c c4 : Nat} {a : Act} {v4 v5 : Value} (hp : p = 3 ∨ p = 4) (hW : Fr wB w F p bs) (hQ : QCells wB b o q A A4 c c4) {f : Int} (hf : bits BinOp.or IntKind.u8 f 2 = f + 2) (hI : I311 F b o (.int .u8 f) v5 a)
    (h : ∀ a', I311 F b o (.int .u8 (f + bit (decide (q.skip = true)) 2)) v5 a' → Q .normal a' w) : Code.wp Tryz.prog (c311 4) Q a w := by
  obtain ⟨k0, k1, k2, k3, k4, k5, k6, k7, k8⟩ := hQ.later hW.1
  have kp : w.cell? ⟨F, 0, none⟩ = some (.int .u8 p) := by
    obtain ⟨_, _, rb, v, hc, _⟩ := hW
    exact f_cell hc 0
  have hp1 : (p == 1) = false := by rcases hp with rfl | rfl <;> rfl
  have hp2 : decide (2 < p) = true := by rcases hp with rfl | rfl <;> rfl
  have hp4 : decide (4 < p) = false := by rcases hp with rfl | rfl <;> rfl
  clear hp
  obtain ⟨g, rfl⟩ := hI.open_
  clear hI
  conv => arg 2; whnf
  go_wp2
  all_goals
    refine ⟨rfl, rfl, rfl, rfl, ?_, rfl⟩
    first | (rw [bit_t (by first | assumption | omega)]; rfl) | (rw [bit_f (by first | omega | simp [*]), Int.add_zero]; rfl)
theorem q_5 {Q : Exit → Act → World → Prop} {wB w : World} {F b o : Nat} {p : Int} {bs : List Int} {q : QP} {A A4 : Option Addr} {c c4 : Nat} {a : Act} {v4 v5 : Value} (hp : p = 3 ∨ p = 4) (hW : Fr wB w F p bs) (hQ : QCells wB b o q A A4 c c4) {f : Int} (hf : bits BinOp.or IntKind.u8 f 4 = f + 4) (hI : I311 F b o (.int .u8 f) v5 a)
    (h : ∀ a', I311 F b o (.int .u8 (f + bit (decide (0 < q.page)) 4)) v5 a' → Q .normal a' w) : Code.wp Tryz.prog (c311 5) Q a w := by
  obtain ⟨k0, k1, k2, k3, k4, k5, k6, k7, k8⟩ := hQ.later hW.1
  have kp : w.cell? ⟨F, 0, none⟩ = some (.int .u8 p) := by
    obtain ⟨_, _, rb, v, hc, _⟩ := hW
    exact f_cell hc 0
  have hp1 : (p == 1) = false := by rcases hp with rfl | rfl <;> rfl
  have hp2 : decide (2 < p) = true := by rcases hp with rfl | rfl <;> rfl
  have hp4 : decide (4 < p) = false := by rcases hp with rfl | rfl <;> rfl
  clear hp
  obtain ⟨g, rfl⟩ := hI.open_
  clear hI
  conv => arg 2; whnf
  go_wp2
  all_goals
    refine ⟨rfl, rfl, rfl, rfl, ?_, rfl⟩
    first | (rw [bit_t (by first | assumption | omega)]; rfl) | (rw [bit_f (by first | omega | simp [*]), Int.add_zero]; rfl)
theorem q_6 {Q : Exit → Act → World → Prop} {wB w : World} {F b o : Nat} {p : Int} {bs : List Int} {q : QP} {A A4 : Option Addr} {c c4 : Nat} {a : Act} {v4 v5 : Value} (hp : p = 3 ∨ p = 4) (hW : Fr wB w F p bs) (hQ : QCells wB b o q A A4 c c4) {f : Int} (hf : bits BinOp.or IntKind.u8 f 8 = f + 8) (hI : I311 F b o (.int .u8 f) v5 a)
    (h : ∀ a', I311 F b o (.int .u8 (f + bit (decide (0 < q.paging.length)) 8)) v5 a' → Q .normal a' w) : Code.wp Tryz.prog (c311 6) Q a w := by
  obtain ⟨k0, k1, k2, k3, k4, k5, k6, k7, k8⟩ := hQ.later hW.1
  have kp : w.cell? ⟨F, 0, none⟩ = some (.int .u8 p) := by
    obtain ⟨_, _, rb, v, hc, _⟩ := hW
    exact f_cell hc 0
  have hp1 : (p == 1) = false := by rcases hp with rfl | rfl <;> rfl
  have hp2 : decide (2 < p) = true := by rcases hp with rfl | rfl <;> rfl
  have hp4 : decide (4 < p) = false := by rcases hp with rfl | rfl <;> rfl
  clear hp
  obtain ⟨g, rfl⟩ := hI.open_
  clear hI
  conv => arg 2; whnf
  go_wp2
  all_goals
    refine ⟨rfl, rfl, rfl, rfl, ?_, rfl⟩
    first | (rw [bit_t (by first | assumption | omega)]; rfl) | (rw [bit_f (by first | omega | simp [*]), Int.add_zero]; rfl)
theorem q_7 {Q : Exit → Act → World → Prop} {wB w : World} {F b o : Nat} {p : Int} {bs : List Int} {q : QP} {A A4 : Option Addr} {c c4 : Nat} {a : Act} {v4 v5 : Value} (hp : p = 3 ∨ p = 4) (hW : Fr wB w F p bs) (hQ : QCells wB b o q A A4 c c4) {f : Int} (hf : bits BinOp.or IntKind.u8 f 16 = f + 16) (hI : I311 F b o (.int .u8 f) v5 a)
    (h : ∀ a', I311 F b o (.int .u8 (f + bit (decide (0 < q.serial)) 16)) v5 a' → Q .normal a' w) : Code.wp Tryz.prog (c311 7) Q a w := by
  obtain ⟨k0, k1, k2, k3, k4, k5, k6, k7, k8⟩ := hQ.later hW.1
  have kp : w.cell? ⟨F, 0, none⟩ = some (.int .u8 p) := by
    obtain ⟨_, _, rb, v, hc, _⟩ := hW
    exact f_cell hc 0
  have hp1 : (p == 1) = false := by rcases hp with rfl | rfl <;> rfl
  have hp2 : decide (2 < p) = true := by rcases hp with rfl | rfl <;> rfl
  have hp4 : decide (4 < p) = false := by rcases hp with rfl | rfl <;> rfl
  clear hp
  obtain ⟨g, rfl⟩ := hI.open_
  clear hI
  conv => arg 2; whnf
  go_wp2
  all_goals
    refine ⟨rfl, rfl, rfl, rfl, ?_, rfl⟩
    first | (rw [bit_t (by first | assumption | omega)]; rfl) | (rw [bit_f (by first | omega | simp [*]), Int.add_zero]; rfl)
theorem q_8 {Q : Exit → Act → World → Prop} {wB w : World} {F b o : Nat} {p : Int} {bs : List Int} {q : QP} {A A4 : Option Addr} {c c4 : Nat} {a : Act} {v4 v5 : Value} (hp : p = 3 ∨ p = 4) (hW : Fr wB w F p bs) (hQ : QCells wB b o q A A4 c c4) (hI : I311 F b o v4 v5 a)
    (h : ∀ a', I311 F b o v4 (.bool false) a' → Q .normal a' w) : Code.wp Tryz.prog (c311 8) Q a w := by
  obtain ⟨k0, k1, k2, k3, k4, k5, k6, k7, k8⟩ := hQ.later hW.1
  have kp : w.cell? ⟨F, 0, none⟩ = some (.int .u8 p) := by
    obtain ⟨_, _, rb, v, hc, _⟩ := hW
    exact f_cell hc 0
  have hp1 : (p == 1) = false := by rcases hp with rfl | rfl <;> rfl
  have hp2 : decide (2 < p) = true := by rcases hp with rfl | rfl <;> rfl
  have hp4 : decide (4 < p) = false := by rcases hp with rfl | rfl <;> rfl
  clear hp
  obtain ⟨g, rfl⟩ := hI.open_
  clear hI
  conv => arg 2; whnf
  go_wp2
  exact ⟨rfl, rfl, rfl, rfl, rfl, rfl⟩
theorem q_9 {Q : Exit → Act → World → Prop} {wB w : World} {F b o : Nat} {p : Int} {bs : List Int} {q : QP} {A A4 : Option Addr} {c c4 : Nat} {a : Act} {v4 v5 : Value} (hp : p = 3 ∨ p = 4) (hW : Fr wB w F p bs) (hQ : QCells wB b o q A A4 c c4) {f : Int} (hR : QRow wB A q.vals) (hf : bits BinOp.or IntKind.u8 f 32 = f + 32) (hf2 : bits BinOp.or IntKind.u8 f 64 = f + 64) (hf3 : bits BinOp.or IntKind.u8 (f + 32) 64 = f + 32 + 64) (hI : I311 F b o (.int .u8 f) (.bool false) a)
    (h : ∀ a', I311 F b o (.int .u8 (f + bit (decide (q.hasT = true)) 32 + bit (decide (named q.vals = true)) 64)) (.bool (named q.vals)) a' → Q .normal a' w) : Code.wp Tryz.prog (c311 9) Q a w := by
  obtain ⟨k0, k1, k2, k3, k4, k5, k6, k7, k8⟩ := hQ.later hW.1
  have kp : w.cell? ⟨F, 0, none⟩ = some (.int .u8 p) := by
    obtain ⟨_, _, rb, v, hc, _⟩ := hW
    exact f_cell hc 0
  have hp1 : (p == 1) = false := by rcases hp with rfl | rfl <;> rfl
  have hp2 : decide (2 < p) = true := by rcases hp with rfl | rfl <;> rfl
  have hp4 : decide (4 < p) = false := by rcases hp with rfl | rfl <;> rfl
  clear hp
  obtain ⟨g, rfl⟩ := hI.open_
  clear hI
  conv => arg 2; whnf
  have hR' := Lib.hid hR
  have hB := Lib.hid hW.1
  clear hR hW hQ
  cases hv : q.vals with
  | nil =>
    have hn : q.vals.length = 0 := by rw [hv]; rfl
    rw [hn] at k2
    rw [hv] at h
    clear hn hv
    go_wp2
    all_goals
      refine ⟨rfl, rfl, rfl, rfl, ?_, rfl⟩
      first | (rw [bit_t (p := q.hasT = true) (by assumption), bit_f (p := named [] = true) (by decide), Int.add_zero]; rfl) | (rw [bit_f (p := q.hasT = true) (by simp [*]), bit_f (p := named [] = true) (by decide), Int.add_zero, Int.add_zero]; rfl)
  | cons x l =>
    obtain ⟨gq, hA, hrow⟩ := hR'.out (by rw [hv]; simp)
    obtain ⟨vx, _, _, hnm, _⟩ := hrow 0 x (by rw [hv]; rfl)
    have kn : w.cell? ⟨gq, 1, none⟩ = some (.string x.name) := (hB.out.cell (p := ⟨gq, 1, none⟩) (World.block_lt_of_cell? wB _ hnm)).trans hnm
    have hn : q.vals.length = l.length + 1 := by rw [hv]; rfl
    rw [hn, hA] at k2
    clear hrow hnm hA hn
    rw [hv] at h
    clear hv
    have hl0 : (0 : Int) < ((l.length : Int) + 1) := by omega
    have hl1 : (0 : Nat) < l.length + 1 := by omega
    cases hx : x.name.toList.isEmpty with
    | true =>
      have hnn : named (x :: l) = false := by simp only [named, hx]; rfl
      rw [hnn] at h
      clear hnn
      go_wp2
      all_goals
        refine ⟨rfl, rfl, rfl, rfl, ?_, rfl⟩
        show Value.int .u8 _ = Value.int .u8 _
        simp [bit, *]
    | false =>
      have hnn : named (x :: l) = true := by simp only [named, hx]; rfl
      rw [hnn] at h
      clear hnn
      go_wp2
      all_goals
        refine ⟨rfl, rfl, rfl, rfl, ?_, rfl⟩
        show Value.int .u8 _ = Value.int .u8 _
        simp [bit, *]
theorem q_10 {Q : Exit → Act → World → Prop} {wB w : World} {F b o : Nat} {p : Int} {bs : List Int} {q : QP} {A A4 : Option Addr} {c c4 : Nat} {a : Act} {v4 v5 : Value} (hp : p = 3 ∨ p = 4) (hW : Fr wB w F p bs) (hQ : QCells wB b o q A A4 c c4) (hI : I311 F b o v4 v5 a)
    (h : ∀ a', I311 F b o v4 v5 a' → Q .normal a' w) : Code.wp Tryz.prog (c311 10) Q a w := by
  obtain ⟨k0, k1, k2, k3, k4, k5, k6, k7, k8⟩ := hQ.later hW.1
  have kp : w.cell? ⟨F, 0, none⟩ = some (.int .u8 p) := by
    obtain ⟨_, _, rb, v, hc, _⟩ := hW
    exact f_cell hc 0
  have hp1 : (p == 1) = false := by rcases hp with rfl | rfl <;> rfl
  have hp2 : decide (2 < p) = true := by rcases hp with rfl | rfl <;> rfl
  have hp4 : decide (4 < p) = false := by rcases hp with rfl | rfl <;> rfl
  clear hp
  obtain ⟨g, rfl⟩ := hI.open_
  clear hI
  conv => arg 2; whnf
  go_wp2
  exact ⟨rfl, rfl, rfl, rfl, rfl, rfl⟩
theorem q_11 {Q : Exit → Act → World → Prop} {wB w : World} {F b o : Nat} {p : Int} {bs : List Int} {q : QP} {A A4 : Option Addr} {c c4 : Nat} {a : Act} {v4 v5 : Value} (hp : p = 3 ∨ p = 4) (hW : Fr wB w F p bs) (hQ : QCells wB b o q A A4 c c4) {f : Int} (hl : bs.length + 1 ≤ 1000000000) (hI : I311 F b o (.int .u8 f) v5 a)
    (h : ∀ a' w', I311 F b o (.int .u8 f) v5 a' → Fr wB w' F p (bs ++ [f]) → Q .normal a' w') : Code.wp Tryz.prog (c311 11) Q a w := by
  obtain ⟨k0, k1, k2, k3, k4, k5, k6, k7, k8⟩ := hQ.later hW.1
  have kp : w.cell? ⟨F, 0, none⟩ = some (.int .u8 p) := by
    obtain ⟨_, _, rb, v, hc, _⟩ := hW
    exact f_cell hc 0
  have hp1 : (p == 1) = false := by rcases hp with rfl | rfl <;> rfl
  have hp2 : decide (2 < p) = true := by rcases hp with rfl | rfl <;> rfl
  have hp4 : decide (4 < p) = false := by rcases hp with rfl | rfl <;> rfl
  clear hp
  obtain ⟨g, rfl⟩ := hI.open_
  clear hI
  conv => arg 2; whnf
  go_wp2_with (go_at_call 316; refine (writeByte_any wB F p bs f _ hl hW).mono ?_; rintro e w1 ⟨rfl, hW1⟩)
  exact h _ _ ⟨rfl, rfl, rfl, rfl, rfl, rfl⟩ hW1
theorem q_13 {Q : Exit → Act → World → Prop} {wB w : World} {F b o : Nat} {p : Int} {bs : List Int} {q : QP} {A A4 : Option Addr} {c c4 : Nat} {a : Act} {v4 v5 : Value} (hp : p = 3 ∨ p = 4) (hW : Fr wB w F p bs) (hQ : QCells wB b o q A A4 c c4) (hl : bs.length + 4 ≤ 1000000000) (h0 : 0 ≤ q.page) (h1 : q.page ≤ 2147483647) (hI : I311 F b o v4 v5 a)
    (h : ∀ a' w', I311 F b o v4 v5 a' → Fr wB w' F p (bs ++ opt_ (0 < q.page) (be 4 q.page)) → Q .normal a' w') : Code.wp Tryz.prog (c311 13) Q a w := by
  obtain ⟨k0, k1, k2, k3, k4, k5, k6, k7, k8⟩ := hQ.later hW.1
  have kp : w.cell? ⟨F, 0, none⟩ = some (.int .u8 p) := by
    obtain ⟨_, _, rb, v, hc, _⟩ := hW
    exact f_cell hc 0
  have hp1 : (p == 1) = false := by rcases hp with rfl | rfl <;> rfl
  have hp2 : decide (2 < p) = true := by rcases hp with rfl | rfl <;> rfl
  have hp4 : decide (4 < p) = false := by rcases hp with rfl | rfl <;> rfl
  clear hp
  obtain ⟨g, rfl⟩ := hI.open_
  clear hI
  conv => arg 2; whnf
  by_cases hP : 0 < q.page
  · rw [opt_t hP] at h
    go_wp2_with (go_at_call 313; refine (writeInt_any wB F p bs q.page _ hl hW).mono ?_; rintro e w1 ⟨rfl, hW1⟩)
    exact h _ _ ⟨rfl, rfl, rfl, rfl, rfl, rfl⟩ hW1
  · rw [opt_f hP, List.append_nil] at h
    go_wp2
    exact h _ _ ⟨rfl, rfl, rfl, rfl, rfl, rfl⟩ hW
theorem q_15 {Q : Exit → Act → World → Prop} {wB w : World} {F b o : Nat} {p : Int} {bs : List Int} {q : QP} {A A4 : Option Addr} {c c4 : Nat} {a : Act} {v4 v5 : Value} (hp : p = 3 ∨ p = 4) (hW : Fr wB w F p bs) (hQ : QCells wB b o q A A4 c c4) (hl : bs.length + 2 ≤ 1000000000) (hI : I311 F b o v4 v5 a)
    (h : ∀ a' w', I311 F b o v4 v5 a' → Fr wB w' F p (bs ++ opt_ (0 < q.serial) (be 2 q.serial)) → Q .normal a' w') : Code.wp Tryz.prog (c311 15) Q a w := by
  obtain ⟨k0, k1, k2, k3, k4, k5, k6, k7, k8⟩ := hQ.later hW.1
  have kp : w.cell? ⟨F, 0, none⟩ = some (.int .u8 p) := by
    obtain ⟨_, _, rb, v, hc, _⟩ := hW
    exact f_cell hc 0
  have hp1 : (p == 1) = false := by rcases hp with rfl | rfl <;> rfl
  have hp2 : decide (2 < p) = true := by rcases hp with rfl | rfl <;> rfl
  have hp4 : decide (4 < p) = false := by rcases hp with rfl | rfl <;> rfl
  clear hp
  obtain ⟨g, rfl⟩ := hI.open_
  clear hI
  conv => arg 2; whnf
  by_cases hP : 0 < q.serial
  · rw [opt_t hP] at h
    go_wp2_with (go_at_call 314; refine (writeConsistency_any wB F p bs q.serial _ hl hW).mono ?_; rintro e w1 ⟨rfl, hW1⟩)
    exact h _ _ ⟨rfl, rfl, rfl, rfl, rfl, rfl⟩ hW1
  · rw [opt_f hP, List.append_nil] at h
    go_wp2
    exact h _ _ ⟨rfl, rfl, rfl, rfl, rfl, rfl⟩ hW
theorem q_14 {Q : Exit → Act → World → Prop} {wB w : World} {F b o : Nat} {p : Int} {bs : List Int} {q : QP} {A A4 : Option Addr} {c c4 : Nat} {a : Act} {v4 v5 : Value} (hp : p = 3 ∨ p = 4) (hW : Fr wB w F p bs) (hQ : QCells wB b o q A A4 c c4) (hRp : ReadsInt wB .u8 A4 q.paging.length q.paging) (h1 : q.paging.length ≤ 100) (hl : bs.length + 4 + 100 ≤ 1000000000) (hI : I311 F b o v4 v5 a)
    (h : ∀ a' w', I311 F b o v4 v5 a' → Fr wB w' F p (bs ++ opt_ (0 < q.paging.length) (be 4 q.paging.length ++ q.paging)) → Q .normal a' w') : Code.wp Tryz.prog (c311 14) Q a w := by
  obtain ⟨k0, k1, k2, k3, k4, k5, k6, k7, k8⟩ := hQ.later hW.1
  have kp : w.cell? ⟨F, 0, none⟩ = some (.int .u8 p) := by
    obtain ⟨_, _, rb, v, hc, _⟩ := hW
    exact f_cell hc 0
  have hp1 : (p == 1) = false := by rcases hp with rfl | rfl <;> rfl
  have hp2 : decide (2 < p) = true := by rcases hp with rfl | rfl <;> rfl
  have hp4 : decide (4 < p) = false := by rcases hp with rfl | rfl <;> rfl
  clear hp
  obtain ⟨g, rfl⟩ := hI.open_
  clear hI
  conv => arg 2; whnf
  by_cases hP : 0 < q.paging.length
  · rw [opt_t hP] at h
    obtain ⟨ad, rfl, _⟩ := hRp.2.2 hP
    have hR' := Lib.hid hRp
    clear hRp
    go_wp2_with (go_at_call 318; refine (writeBytes_some wB F p bs q.paging ad q.paging.length c4 _ rfl (by omega) (by omega) hW hR'.out).mono ?_; rintro e w1 ⟨rfl, hW1⟩)
    exact h _ _ ⟨rfl, rfl, rfl, rfl, rfl, rfl⟩ hW1
  · rw [opt_f hP, List.append_nil] at h
    clear hRp
    go_wp2
    exact h _ _ ⟨rfl, rfl, rfl, rfl, rfl, rfl⟩ hW
theorem q_16 {Q : Exit → Act → World → Prop} {wB w : World} {F b o : Nat} {p : Int} {bs : List Int} {q : QP} {A A4 : Option Addr} {c c4 : Nat} {a : Act} {v4 v5 : Value} (hp : p = 3 ∨ p = 4) (hW : Fr wB w F p bs) (hQ : QCells wB b o q A A4 c c4) (hl : bs.length + 8 ≤ 1000000000) (hI : I311 F b o v4 v5 a)
    (h : ∀ a' w', I311 F b o v4 v5 a' → Fr wB w' F p (bs ++ opt_ (q.hasT = true) (be 8 q.t)) → Q .normal a' w') : Code.wp Tryz.prog (c311 16) Q a w := by
  obtain ⟨k0, k1, k2, k3, k4, k5, k6, k7, k8⟩ := hQ.later hW.1
  have kp : w.cell? ⟨F, 0, none⟩ = some (.int .u8 p) := by
    obtain ⟨_, _, rb, v, hc, _⟩ := hW
    exact f_cell hc 0
  have hp1 : (p == 1) = false := by rcases hp with rfl | rfl <;> rfl
  have hp2 : decide (2 < p) = true := by rcases hp with rfl | rfl <;> rfl
  have hp4 : decide (4 < p) = false := by rcases hp with rfl | rfl <;> rfl
  clear hp
  obtain ⟨g, rfl⟩ := hI.open_
  clear hI
  conv => arg 2; whnf
  cases hT : q.hasT with
  | true =>
    rw [hT] at k6
    rw [hT, opt_t rfl] at h
    clear hT
    by_cases ht : q.t = 0
    · have ht' : (q.t != 0) = false := by simp [ht]
      have h0 : be 8 q.t = be 8 0 := by rw [ht]
      rw [h0] at h
      clear ht h0
      go_wp2_with (go_at_call 319; refine (writeLong_any wB F p bs _ _ hl hW).mono ?_; rintro e w1 ⟨rfl, hW1⟩)
      exact h _ _ ⟨rfl, rfl, rfl, rfl, rfl, rfl⟩ hW1
    · have ht' : (q.t != 0) = true := by simp [ht]
      clear ht
      go_wp2_with (go_at_call 319; refine (writeLong_any wB F p bs _ _ hl hW).mono ?_; rintro e w1 ⟨rfl, hW1⟩)
      exact h _ _ ⟨rfl, rfl, rfl, rfl, rfl, rfl⟩ hW1
  | false =>
    rw [hT] at k6
    rw [hT, opt_f (by decide), List.append_nil] at h
    clear hT
    go_wp2
    exact h _ _ ⟨rfl, rfl, rfl, rfl, rfl, rfl⟩ hW
theorem q_17 {Q : Exit → Act → World → Prop} {wB w : World} {F b o : Nat} {p : Int} {bs : List Int} {q : QP} {A A4 : Option Addr} {c c4 : Nat} {a : Act} {v4 v5 : Value} (hp : p = 3 ∨ p = 4) (hW : Fr wB w F p bs) (hQ : QCells wB b o q A A4 c c4) (hI : I311 F b o v4 v5 a)
    (h : ∀ a', I311 F b o v4 v5 a' → Q .normal a' w) : Code.wp Tryz.prog (t311 17) Q a w := by
  obtain ⟨k0, k1, k2, k3, k4, k5, k6, k7, k8⟩ := hQ.later hW.1
  have kp : w.cell? ⟨F, 0, none⟩ = some (.int .u8 p) := by
    obtain ⟨_, _, rb, v, hc, _⟩ := hW
    exact f_cell hc 0
  have hp1 : (p == 1) = false := by rcases hp with rfl | rfl <;> rfl
  have hp2 : decide (2 < p) = true := by rcases hp with rfl | rfl <;> rfl
  have hp4 : decide (4 < p) = false := by rcases hp with rfl | rfl <;> rfl
  clear hp
  obtain ⟨g, rfl⟩ := hI.open_
  clear hI
  conv => arg 2; whnf
  go_wp2
  exact ⟨rfl, rfl, rfl, rfl, rfl, rfl⟩
theorem q_12 {Q : Exit → Act → World → Prop} {wB w : World} {F b o : Nat} {p : Int} {bs : List Int} {q : QP} {A A4 : Option Addr} {c c4 : Nat} {a : Act} {v4 v5 : Value} (hp : p = 3 ∨ p = 4) (hW : Fr wB w F p bs) (hQ : QCells wB b o q A A4 c c4) (hR : QRow wB A q.vals) (hN : q.vals.length ≤ 20) (hok : ∀ x ∈ q.vals, x.ok) (hl : bs.length ≥ 0 ∧ bs.length ≤ 900000000) (hI : I311 F b o v4 (.bool (named q.vals)) a)
    (h : ∀ a' w', I311 F b o v4 (.bool (named q.vals)) a' → Fr wB w' F p (bs ++ opt_ (0 < q.vals.length) (be 2 q.vals.length ++ q.vals.flatMap (vbytes (named q.vals)))) → Q .normal a' w') : Code.wp Tryz.prog (c311 12) Q a w := by
  obtain ⟨k0, k1, k2, k3, k4, k5, k6, k7, k8⟩ := hQ.later hW.1
  have kp : w.cell? ⟨F, 0, none⟩ = some (.int .u8 p) := by
    obtain ⟨_, _, rb, v, hc, _⟩ := hW
    exact f_cell hc 0
  have hp1 : (p == 1) = false := by rcases hp with rfl | rfl <;> rfl
  have hp2 : decide (2 < p) = true := by rcases hp with rfl | rfl <;> rfl
  have hp4 : decide (4 < p) = false := by rcases hp with rfl | rfl <;> rfl
  clear hp
  obtain ⟨g, rfl⟩ := hI.open_
  clear hI
  conv => arg 2; whnf
  by_cases hP : 0 < q.vals.length
  · rw [opt_t hP] at h
    have HR := Lib.hid hR
    have Hok := Lib.hid hok
    have HQ := Lib.hid hQ
    generalize hnm : named q.vals = nm at *
    have Hnm := Lib.hid hnm
    clear hR hok hQ hnm
    go_wp2_with (go_at_call 281; refine (writeShort_any wB F p bs q.vals.length _ (by omega) hW).mono ?_; rintro e w1 ⟨rfl, hW1⟩)
    have HW1 := Lib.hid hW1
    have HK2 := Lib.hid k2
    clear k0 k1 k2 k3 k4 k5 k6 k7 k8 kp hW1 hW
    have Hh := Lib.hid h
    clear h
    go_loopw [7] (fun v7 W => ∃ i : Nat, v7 = .int .i64 i ∧ i ≤ q.vals.length ∧ Hid (Fr wB W F p (bs ++ be 2 q.vals.length ++ (q.vals.take i).flatMap (vbytes nm)))) (fun v7 _ => q.vals.length - (intOf v7).toNat)
    case atStart => exact ⟨0, rfl, by omega, Lib.hid (by simpa using HW1.out)⟩
    case round =>
      obtain ⟨i, rfl, hi, HW2⟩ := hrel
      clear HW1
      obtain ⟨k0, k1, k2, k3, k4, k5, k6, k7, k8⟩ := HQ.out.later HW2.out.1
      clear k0 k1 k3 k4 k5 k6 k7 k8
      by_cases hlt : i < q.vals.length
      · have hx : q.vals[i]? = some q.vals[i] := List.getElem?_eq_getElem hlt
        obtain ⟨gq, hA, hrow⟩ := HR.out hP
        obtain ⟨vx, hdat, hkv, hkn, hku⟩ := hrow i _ hx
        have hxok := Hok.out _ (List.getElem_mem hlt)
        have hsn := Lib.hid (flat_snoc (vbytes nm) q.vals i _ hx)
        have hfl : ((q.vals.take i).flatMap (vbytes nm)).length ≤ 6000 := by
          have h1 := flat_le (vbytes nm) 300 (q.vals.take i) (fun y hy => vbytes_le nm y (Hok.out y (List.mem_of_mem_take hy)))
          have h2 : (q.vals.take i).length ≤ 20 := by rw [List.length_take]; omega
          omega
        have hcl : (bs ++ be 2 q.vals.length ++ (q.vals.take i).flatMap (vbytes nm)).length ≤ 900010000 := by
          simp only [List.length_append, be_length]; omega
        generalize q.vals[i] = x at *
        generalize hcs0 : bs ++ be 2 q.vals.length ++ (q.vals.take i).flatMap (vbytes nm) = cs at *
        have hcs := Lib.hid hcs0
        clear hcs0
        have HL : Hid (∀ W, Below wB.heap.size wB W → W.cell? ⟨gq, i * 3, none⟩ = some vx ∧ W.cell? ⟨gq, i * 3 + 1, none⟩ = some (.string x.name) ∧ W.cell? ⟨gq, i * 3 + 2, none⟩ = some (.bool x.unset) ∧ W.cell? ⟨b, o + 2, none⟩ = some (.slice (some ⟨gq, 0, none⟩) q.vals.length c)) := by
          refine Lib.hid (fun W hb => ?_)
          obtain ⟨_, _, h2, _⟩ := HQ.out.later hb
          rw [hA] at h2
          exact ⟨(hb.cell (p := ⟨gq, i * 3, none⟩) (World.block_lt_of_cell? wB _ hkv)).trans hkv, (hb.cell (p := ⟨gq, i * 3 + 1, none⟩) (World.block_lt_of_cell? wB _ hkn)).trans hkn, (hb.cell (p := ⟨gq, i * 3 + 2, none⟩) (World.block_lt_of_cell? wB _ hku)).trans hku, h2⟩
        clear hkv hkn hku hrow hA hx k2
        obtain ⟨kv, kn, ku, k2⟩ := HL.out wr HW2.out.1
        obtain ⟨xval, xname, xun⟩ := x
        simp only at kv kn ku k2 hdat hxok
        have hxn : xname.size ≤ 100 := hxok.1
        have hvl := Lib.hid hxok.2
        clear hxok
        cases nm with
        | true =>
          cases xun with
          | true =>
            go_wp2_with (first | (go_at_call 283; refine (writeString_any wB F p cs xname _ (by omega) (by omega) HW2.out).mono ?_; rintro e w2 ⟨rfl, hW3⟩; clear kv kn ku k2; obtain ⟨kv, kn, ku, k2⟩ := HL.out w2 hW3.1; simp only at kv kn ku k2) | (go_at_call 317; refine (writeUnset_any wB F p (cs ++ (be 2 xname.size ++ bytesOf xname)) _ (by simp only [List.length_append, be_length, bytesOf_length]; omega) hW3).mono ?_; rintro e w4 ⟨rfl, hW4⟩))
            go_roundw
            case rel =>
              refine ⟨i + 1, by go_num, by omega, Lib.hid ?_⟩
              rw [hsn.out, ← List.append_assoc, hcs.out]
              simpa [vbytes, List.append_assoc] using hW4
            case measure => simp [intOf]; omega
          | false =>
            cases xval with
            | none =>
              obtain rfl : vx = .slice none 0 0 := hdat
              go_wp2_with (first | (go_at_call 283; refine (writeString_any wB F p cs xname _ (by omega) (by omega) HW2.out).mono ?_; rintro e w2 ⟨rfl, hW3⟩; clear kv kn ku k2; obtain ⟨kv, kn, ku, k2⟩ := HL.out w2 hW3.1; simp only at kv kn ku k2) | (go_at_call 318; refine (writeBytes_nil wB F p (cs ++ (be 2 xname.size ++ bytesOf xname)) _ (by simp only [List.length_append, be_length, bytesOf_length]; omega) hW3).mono ?_; rintro e w4 ⟨rfl, hW4⟩))
              go_roundw
              case rel =>
                refine ⟨i + 1, by go_num, by omega, Lib.hid ?_⟩
                rw [hsn.out, ← List.append_assoc, hcs.out]
                simpa [vbytes, List.append_assoc] using hW4
              case measure => simp [intOf]; omega
            | some l =>
              obtain ⟨ad, cv, rfl, hrd0⟩ := hdat
              have hrd := Lib.hid hrd0
              have hll : l.length ≤ 100 := hvl.out l rfl
              clear hrd0
              go_wp2_with (first | (go_at_call 283; refine (writeString_any wB F p cs xname _ (by omega) (by omega) HW2.out).mono ?_; rintro e w2 ⟨rfl, hW3⟩; clear kv kn ku k2; obtain ⟨kv, kn, ku, k2⟩ := HL.out w2 hW3.1; simp only at kv kn ku k2) | (go_at_call 318; refine (writeBytes_some wB F p (cs ++ (be 2 xname.size ++ bytesOf xname)) l ad l.length cv _ rfl (by omega) (by simp only [List.length_append, be_length, bytesOf_length]; omega) hW3 hrd.out).mono ?_; rintro e w4 ⟨rfl, hW4⟩))
              go_roundw
              case rel =>
                refine ⟨i + 1, by go_num, by omega, Lib.hid ?_⟩
                rw [hsn.out, ← List.append_assoc, hcs.out]
                simpa [vbytes, List.append_assoc] using hW4
              case measure => simp [intOf]; omega
        | false =>
          cases xun with
          | true =>
            go_wp2_with (go_at_call 317; refine (writeUnset_any wB F p cs _ (by omega) HW2.out).mono ?_; rintro e w4 ⟨rfl, hW4⟩)
            go_roundw
            case rel =>
              refine ⟨i + 1, by go_num, by omega, Lib.hid ?_⟩
              rw [hsn.out, ← List.append_assoc, hcs.out]
              simpa [vbytes, List.append_assoc] using hW4
            case measure => simp [intOf]; omega
          | false =>
            cases xval with
            | none =>
              obtain rfl : vx = .slice none 0 0 := hdat
              go_wp2_with (go_at_call 318; refine (writeBytes_nil wB F p cs _ (by omega) HW2.out).mono ?_; rintro e w4 ⟨rfl, hW4⟩)
              go_roundw
              case rel =>
                refine ⟨i + 1, by go_num, by omega, Lib.hid ?_⟩
                rw [hsn.out, ← List.append_assoc, hcs.out]
                simpa [vbytes, List.append_assoc] using hW4
              case measure => simp [intOf]; omega
            | some l =>
              obtain ⟨ad, cv, rfl, hrd0⟩ := hdat
              have hrd := Lib.hid hrd0
              have hll : l.length ≤ 100 := hvl.out l rfl
              clear hrd0
              go_wp2_with (go_at_call 318; refine (writeBytes_some wB F p cs l ad l.length cv _ rfl (by omega) (by omega) HW2.out hrd.out).mono ?_; rintro e w4 ⟨rfl, hW4⟩)
              go_roundw
              case rel =>
                refine ⟨i + 1, by go_num, by omega, Lib.hid ?_⟩
                rw [hsn.out, ← List.append_assoc, hcs.out]
                simpa [vbytes, List.append_assoc] using hW4
              case measure => simp [intOf]; omega
      · go_wp2
        have hii : i = q.vals.length := by omega
        have hW3 := HW2.out
        rw [hii, List.take_length] at hW3
        rw [List.append_assoc] at hW3
        exact Hh.out _ _ ⟨rfl, rfl, rfl, rfl, rfl, rfl⟩ hW3
  · rw [opt_f hP, List.append_nil] at h
    clear hR hok
    go_wp2
    exact h _ _ ⟨rfl, rfl, rfl, rfl, rfl, rfl⟩ hW
/-- A body's wp from a frame that is only known slot by slot. -/
theorem calls_by {P : Program} {f : FuncId} {fn : Func} {c : Code} {args : Array Value} {w : World} {R : Ending → World → Prop} (n : Nat)
    (hf : P.funcs[f]? = some fn) (hb : fn.body = some c) (hn : fn.ntmps = n) (ha : args.size ≤ n)
    (h : ∀ a : Act, a.defers = [] → a.tmps.size = n → (∀ k, a.tmps.getD k undef = args.getD k undef) → c.wp P (bodyPost P fn R) a w) :
    Calls P f args w R := by
  refine calls_of_wp hf hb (h _ rfl ?_ ?_)
  · simp only [Array.size_append, Array.size_replicate, hn]; omega
  · intro k
    simp only [Array.getD_eq_getD_getElem?, Array.getElem?_append]
    split
    · rfl
    · rename_i hk
      rw [Array.getElem?_eq_none (xs := args) (by omega)]
      simp only [Array.getElem?_replicate]
      split <;> rfl
theorem body311 : Tryz.f311.body = some ((c311 0).seq ((c311 1).seq ((c311 2).seq ((c311 3).seq ((c311 4).seq ((c311 5).seq ((c311 6).seq ((c311 7).seq ((c311 8).seq ((c311 9).seq ((c311 10).seq ((c311 11).seq ((c311 12).seq ((c311 13).seq ((c311 14).seq ((c311 15).seq ((c311 16).seq (t311 17)))))))))))))))))) := rfl
attribute [local irreducible] c311 t311
theorem e311 (F b o : Nat) (w : World) (R : Ending → World → Prop)
   (h : ∀ a : Act, I311 F b o undef undef a → Code.wp Tryz.prog ((c311 0).seq ((c311 1).seq ((c311 2).seq ((c311 3).seq ((c311 4).seq ((c311 5).seq ((c311 6).seq ((c311 7).seq ((c311 8).seq ((c311 9).seq ((c311 10).seq ((c311 11).seq ((c311 12).seq ((c311 13).seq ((c311 14).seq ((c311 15).seq ((c311 16).seq (t311 17)))))))))))))))))) (bodyPost Tryz.prog Tryz.f311 R) a w) : 
    Calls Tryz.prog 311 #[.pointer (some ⟨F, 0, none⟩), .pointer (some ⟨b, o, none⟩)] w R := by
  refine calls_by 226 Tryz.func311 body311 Tryz.ntmps311 (by simp) fun a hd hs hg => ?_
  refine h a ⟨hd, hs, ?_, ?_, ?_, ?_⟩
  all_goals (rw [hg]; rfl)
theorem writeQueryParams_any (wB : World) (F b o : Nat) (p : Int) (bs : List Int) (q : QP) (A A4 : Option Addr) (c c4 : Nat) (w : World) (hp : p = 3 ∨ p = 4) (hl : bs.length ≤ 100000) (hq : q.ok) (hW : Fr wB w F p bs)
    (hQ : QCells wB b o q A A4 c c4) (hR : QRow wB A q.vals) (hP : ReadsInt wB .u8 A4 q.paging.length q.paging) :
    Calls Tryz.prog 311 #[.pointer (some ⟨F, 0, none⟩), .pointer (some ⟨b, o, none⟩)] w fun e w' => e = .returned (.tuple #[]) ∧ Fr wB w' F p (bs ++ qbytes q) := by
  obtain ⟨hN, hok, hpg0, hpg1, hpag, hser⟩ := hq
  have hv : (q.vals.flatMap (vbytes (named q.vals))).length ≤ 6000 := by
    have := flat_le (vbytes (named q.vals)) 300 q.vals (fun y hy => vbytes_le _ y (hok y hy))
    omega
  have c1 := bit_01 (decide (0 < q.vals.length)) 1
  have c2 := bit_01 (decide (q.skip = true)) 2
  have c4' := bit_01 (decide (0 < q.page)) 4
  have c8 := bit_01 (decide (0 < q.paging.length)) 8
  have c16 := bit_01 (decide (0 < q.serial)) 16
  have c32 := bit_01 (decide (q.hasT = true)) 32
  refine e311 F b o w _ fun a hI => ?_
  refine wp_seq (q_0 hp hW hQ (by omega) hI fun a0 w0 hI hW => ?_)
  refine wp_seq (q_1 hp hW hQ hI fun a1 hI => ?_)
  refine wp_seq (q_2 hp hW hQ hI fun a2 hI => ?_)
  refine wp_seq (q_3 (v4 := undef) hp hW hQ rfl hI fun a3 hI => ?_)
  refine wp_seq (q_4 (v4 := undef) hp hW hQ (bits_or _ _ 2 (by simp) rfl (by omega) (by omega)) hI fun a4 hI => ?_)
  refine wp_seq (q_5 (v4 := undef) hp hW hQ (bits_or _ _ 4 (by simp) rfl (by omega) (by omega)) hI fun a5 hI => ?_)
  refine wp_seq (q_6 (v4 := undef) hp hW hQ (bits_or _ _ 8 (by simp) rfl (by omega) (by omega)) hI fun a6 hI => ?_)
  refine wp_seq (q_7 (v4 := undef) hp hW hQ (bits_or _ _ 16 (by simp) rfl (by omega) (by omega)) hI fun a7 hI => ?_)
  refine wp_seq (q_8 hp hW hQ hI fun a8 hI => ?_)
  refine wp_seq (q_9 (v4 := undef) (v5 := undef) hp hW hQ hR (bits_or _ _ 32 (by simp) rfl (by omega) (by omega)) (bits_or _ _ 64 (by simp) rfl (by omega) (by omega)) (bits_or _ _ 64 (by simp) rfl (by omega) (by omega)) hI fun a9 hI => ?_)
  refine wp_seq (q_10 hp hW hQ hI fun a10 hI => ?_)
  refine wp_seq (q_11 (v4 := undef) hp hW hQ (by simp only [List.length_append, be_length]; omega) hI fun a11 w11 hI hW => ?_)
  refine wp_seq (q_12 (v5 := undef) hp hW hQ hR hN hok (by simp only [List.length_append, be_length, List.length_singleton]; omega) hI fun a12 w12 hI hW => ?_)
  have hlen : ∀ l : List Int, l.length ≤ 200000 → l.length + 4 ≤ 1000000000 ∧ l.length + 2 ≤ 1000000000 ∧ l.length + 4 + 100 ≤ 1000000000 ∧ l.length + 8 ≤ 1000000000 := fun l h => by omega
  have o1 := opt_le (0 < q.vals.length) (be 2 q.vals.length ++ q.vals.flatMap (vbytes (named q.vals)))
  have o2 := opt_le (0 < q.page) (be 4 q.page)
  have o3 := opt_le (0 < q.paging.length) (be 4 q.paging.length ++ q.paging)
  have o4 := opt_le (0 < q.serial) (be 2 q.serial)
  simp only [List.length_append, be_length] at o1 o2 o3 o4
  refine wp_seq (q_13 hp hW hQ (by simp only [List.length_append, be_length, List.length_singleton]; omega) hpg0 hpg1 hI fun a13 w13 hI hW => ?_)
  refine wp_seq (q_14 hp hW hQ hP hpag (by simp only [List.length_append, be_length, List.length_singleton]; omega) hI fun a14 w14 hI hW => ?_)
  refine wp_seq (q_15 hp hW hQ (by simp only [List.length_append, be_length, List.length_singleton]; omega) hI fun a15 w15 hI hW => ?_)
  refine wp_seq (q_16 hp hW hQ (by simp only [List.length_append, be_length, List.length_singleton]; omega) hI fun a16 w16 hI hW => ?_)
  refine q_17 hp hW hQ hI fun a17 hI => ?_
  refine bodyPost_end (results_none rfl _ _ _) hI.1 ⟨rfl, ?_⟩
  have e : bs ++ qbytes q = _ := rfl
  simpa [qbytes, QP.flags, List.append_assoc, Int.add_assoc] using hW
end Go.Proofs.YtammjbmfiakbnaaGreatDoor
