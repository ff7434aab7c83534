/-
  impl.Format: the frame of a request, as it is handed back. impl.Format: a request's frame.
-/
import Derived.Test.YtammjbmfiakbnaaGreatDoorY3
import Derived.Test.YtammjbmfiakbnaaGreatDoorT
namespace Go.Proofs.YtammjbmfiakbnaaGreatDoor
set_option maxHeartbeats 2000000
set_option maxRecDepth 100000
set_option linter.unusedSimpArgs false
set_option linter.unusedVariables false
open Go.RowKit Go.Proofs.YtammjbmfiakbnaaGreatDoorW.PrintWords Go.Proofs.YtammjbmfiakbnaaGreatDoorW.PrintLast Go.Proofs.YtammjbmfiakbnaaGreatDoorW.PrintMore
open Go.Proofs.YtammjbmfiakbnaaGreatDoor.PFnRequest
/-- The body of a request's frame. -/
def IR.body (r : IR) : List Int := if r.op = 1 then be 2 (r.opts.map kvOf).length ++ (r.opts.map kvOf).flatMap kvbytes else if r.op = 5 then [] else if r.op = 7 then be 4 r.text.size ++ bytesOf r.text ++ qbytes r.q.qp else if r.op = 9 then be 4 r.text.size ++ bytesOf r.text else if r.op = 10 then be 2 r.id.length ++ r.id ++ qbytes r.q.qp else if r.op = 11 then be 2 r.ev.length ++ r.ev.flatMap sbytes else if r.op = 13 then bbytes r.batch (r.sts.map sv) r.q.qp else if r.op = 15 then be 4 r.data.length ++ r.data else []
/-- Requests that are compared. -/
def IR.ok (r : IR) : Prop := r.q.ok ∧ ((r.op = 1 ∧ r.opts.length ≤ 10 ∧ (∀ x ∈ r.opts, x.f0.size ≤ 100 ∧ x.f1.size ≤ 100) ∧ ((r.opts.map kvOf).map fun kv => kv.1.data.toList).Pairwise (· < ·)) ∨ (r.op = 5) ∨ (r.op = 7 ∧ r.text.size ≤ 100 ∧ r.q.qp.ok) ∨ (r.op = 9 ∧ r.text.size ≤ 100) ∨ (r.op = 10 ∧ r.id.length ≤ 100 ∧ r.q.qp.ok) ∨ (r.op = 11 ∧ r.ev.length ≤ 10 ∧ (∀ x ∈ r.ev, x.size ≤ 100)) ∨ (r.op = 13 ∧ 0 ≤ r.batch ∧ r.batch ≤ 2 ∧ r.sts.length ≤ 10 ∧ (∀ x ∈ r.sts, x.f1.length ≤ 100 ∧ x.f2.length ≤ 20 ∧ ∀ y ∈ x.f2, y.f3.length ≤ 100) ∧ (∀ x ∈ r.sts.map sv, x.ok)) ∨ (r.op = 15 ∧ r.data.length ≤ 100))
theorem asked_any (w : World) (p s : Int) (r : IR) (hp : p = 3 ∨ p = 4) (hr : r.ok) (hI : r.In w) :
    Calls Tryz.prog 23 #[.int .u8 p, .int .i64 s, .agg r.cells] w fun e w' => ∃ v, e = .returned (.tuple #[v, .bool true, .nilIface]) ∧ Out w w' v (frame p r.op s r.body) := by
  obtain ⟨hq, h⟩ := hr
  rcases h with ⟨h0, h1, h2, h3⟩ | h0 | ⟨h0, h1, h2⟩ | ⟨h0, h1⟩ | ⟨h0, h1, h2⟩ | ⟨h0, h1, h2⟩ | ⟨h0, h1, h2, h3, h4, h5⟩ | ⟨h0, h1⟩
  · have e : r.body = be 2 (r.opts.map kvOf).length ++ (r.opts.map kvOf).flatMap kvbytes := by unfold IR.body; rw [h0]; rfl
    rw [e]
    exact asked_startup w p s r hp hq hI h0 h1 h2 h3
  · have e : r.body = [] := by unfold IR.body; rw [h0]; rfl
    rw [e]
    exact asked_options w p s r hp hq hI h0
  · have e : r.body = be 4 r.text.size ++ bytesOf r.text ++ qbytes r.q.qp := by unfold IR.body; rw [h0]; rfl
    rw [e]
    exact asked_query w p s r hp hq hI h0 h1 h2
  · have e : r.body = be 4 r.text.size ++ bytesOf r.text := by unfold IR.body; rw [h0]; rfl
    rw [e]
    exact asked_prepare w p s r hp hq hI h0 h1
  · have e : r.body = be 2 r.id.length ++ r.id ++ qbytes r.q.qp := by unfold IR.body; rw [h0]; rfl
    rw [e]
    exact asked_execute w p s r hp hq hI h0 h1 h2
  · have e : r.body = be 2 r.ev.length ++ r.ev.flatMap sbytes := by unfold IR.body; rw [h0]; rfl
    rw [e]
    exact asked_register w p s r hp hq hI h0 h1 h2
  · have e : r.body = bbytes r.batch (r.sts.map sv) r.q.qp := by unfold IR.body; rw [h0]; rfl
    rw [e]
    exact asked_batch w p s r hp hq hI h0 h1 h2 h3 h4 h5
  · have e : r.body = be 4 r.data.length ++ r.data := by unfold IR.body; rw [h0]; rfl
    rw [e]
    exact asked_auth w p s r hp hq hI h0 h1
theorem frame_len (p : Int) (r : IR) (s : Int) (h : r.ok) : (frame p r.op s r.body).length ≤ 100000000 := by
  have e : (frame p r.op s r.body).length = 9 + r.body.length := by simp [frame, be_length]; omega
  rw [e]
  have hb : r.body.length ≤ 99000000 := by
    obtain ⟨hq, h⟩ := h
    rcases h with ⟨h0, h1, h2, h3⟩ | h0 | ⟨h0, h1, h2⟩ | ⟨h0, h1⟩ | ⟨h0, h1, h2⟩ | ⟨h0, h1, h2⟩ | ⟨h0, h1, h2, h3, h4, h5⟩ | ⟨h0, h1⟩
    · have e : r.body = be 2 (r.opts.map kvOf).length ++ (r.opts.map kvOf).flatMap kvbytes := by unfold IR.body; rw [h0]; rfl
      rw [e]
      have h4 := flat_le kvbytes 204 (r.opts.map kvOf) (fun y hy => by obtain ⟨x, hx, rfl⟩ := List.mem_map.1 hy; exact kvbytes_le _ (h2 x hx))
      rw [List.length_map] at h4
      simp only [List.length_append, be_length, bytesOf_length, List.length_nil]
      omega
    · have e : r.body = [] := by unfold IR.body; rw [h0]; rfl
      rw [e]
      simp only [List.length_append, be_length, bytesOf_length, List.length_nil]
      omega
    · have e : r.body = be 4 r.text.size ++ bytesOf r.text ++ qbytes r.q.qp := by unfold IR.body; rw [h0]; rfl
      rw [e]
      have h4 := qbytes_le r.q.qp h2
      simp only [List.length_append, be_length, bytesOf_length, List.length_nil]
      omega
    · have e : r.body = be 4 r.text.size ++ bytesOf r.text := by unfold IR.body; rw [h0]; rfl
      rw [e]
      simp only [List.length_append, be_length, bytesOf_length, List.length_nil]
      omega
    · have e : r.body = be 2 r.id.length ++ r.id ++ qbytes r.q.qp := by unfold IR.body; rw [h0]; rfl
      rw [e]
      have h4 := qbytes_le r.q.qp h2
      simp only [List.length_append, be_length, bytesOf_length, List.length_nil]
      omega
    · have e : r.body = be 2 r.ev.length ++ r.ev.flatMap sbytes := by unfold IR.body; rw [h0]; rfl
      rw [e]
      have h4 := flat_le sbytes 102 r.ev (fun y hy => sbytes_le y (h2 y hy))
      simp only [List.length_append, be_length, bytesOf_length, List.length_nil]
      omega
    · have e : r.body = bbytes r.batch (r.sts.map sv) r.q.qp := by unfold IR.body; rw [h0]; rfl
      rw [e]
      have h6 := bbytes_le r.batch (r.sts.map sv) r.q.qp (by rw [List.length_map]; exact h3) h5
      omega
    · have e : r.body = be 4 r.data.length ++ r.data := by unfold IR.body; rw [h0]; rfl
      rw [e]
      simp only [List.length_append, be_length, bytesOf_length, List.length_nil]
      omega
  omega
/-- What impl.Format does quietly. -/
theorem format1_any (wB w : World) (V S K Bb Bk : Nat) (p s : Int) (r : IR) (hp : p = 3 ∨ p = 4) (hr : r.ok) (hI : r.In w) (hbe : Below wB.heap.size wB w) (hgb : wB.heap.size ≤ Bb) (hgk : wB.heap.size ≤ Bk)
    (hV : w.cell? ⟨V, 0, none⟩ = some (.int .i64 p)) (hS : w.cell? ⟨S, 0, none⟩ = some (.int .i64 s)) (hK : w.heap[K]? = some (.cells r.cells 31 (0, 0))) (hb : w.heap[Bb]? = some (.cells #[.slice none 0 0] 23 (0, 0))) (hk : w.heap[Bk]? = some (.cells #[.bool false] 4 (0, 0))) :
    Calls Tryz.prog 22 #[.pointer (some ⟨V, 0, none⟩), .pointer (some ⟨S, 0, none⟩), .pointer (some ⟨K, 0, none⟩), .pointer (some ⟨Bb, 0, none⟩), .pointer (some ⟨Bk, 0, none⟩)] w fun e w' => e = .returned (.tuple #[]) ∧ Below wB.heap.size wB w' ∧
      (∀ g cs t, g ≠ Bb → g ≠ Bk → w.heap[g]? = some (.cells cs t (0, 0)) → w'.heap[g]? = some (.cells cs t (0, 0))) ∧ w'.heap[Bk]? = some (.cells #[.bool true] 4 (0, 0)) ∧ ∃ v, w'.heap[Bb]? = some (.cells #[v] 23 (0, 0)) ∧ w'.ownsRow wB.heap.size 5 1 v (frame p r.op s r.body).length (nums .u8 (frame p r.op s r.body)) := by
  have hw8 : IntKind.u8.wrap p = p := by rcases hp with rfl | rfl <;> rfl
  have HI := Lib.hid hI
  have Hr := Lib.hid hr
  have HB := Lib.hid hbe
  have HKb := Lib.hid hb
  have HKk := Lib.hid hk
  have HK := Lib.hid hK
  have k0 := (cell_of_row _ _ 0 _ _ _ HK.out).trans rfl
  have k1 := (cell_of_row _ _ 1 _ _ _ HK.out).trans rfl
  have k2 := (cell_of_row _ _ 2 _ _ _ HK.out).trans rfl
  have k3 := (cell_of_row _ _ 3 _ _ _ HK.out).trans rfl
  have k4 := (cell_of_row _ _ 4 _ _ _ HK.out).trans rfl
  have k5 := (cell_of_row _ _ 5 _ _ _ HK.out).trans rfl
  have k6 := (cell_of_row _ _ 6 _ _ _ HK.out).trans rfl
  have k7 := (cell_of_row _ _ 7 _ _ _ HK.out).trans rfl
  have k8 := (cell_of_row _ _ 8 _ _ _ HK.out).trans rfl
  have k9 := (cell_of_row _ _ 9 _ _ _ HK.out).trans rfl
  have k10 := (cell_of_row _ _ 10 _ _ _ HK.out).trans rfl
  have k11 := (cell_of_row _ _ 11 _ _ _ HK.out).trans rfl
  have k12 := (cell_of_row _ _ 12 _ _ _ HK.out).trans rfl
  have k13 := (cell_of_row _ _ 13 _ _ _ HK.out).trans rfl
  have k14 := (cell_of_row _ _ 14 _ _ _ HK.out).trans rfl
  have Hne : Hid (Bk ≠ Bb) := Lib.hid (fun h => by subst h; have h2 := hb.symm.trans hk; injection h2 with h2; injection h2 with _ h2; exact absurd h2 (by decide))
  clear hI hr hbe hb hk hK
  go_enter Tryz.func22, Tryz.ntmps22
  go_wp2_with fail
  refine (asked_any w p s r hp Hr.out HI.out).mono ?_
  rintro e w1 ⟨v, rfl, hO⟩
  have HO := Lib.hid hO
  clear hO
  clear k0 k1 k2 k3 k4 k5 k6 k7 k8 k9 k10 k11 k12 k13 k14
  go_upto_region 1 with (fail)
  obtain ⟨hbO, hoO⟩ := HO.out
  obtain ⟨A, n, c, rfl⟩ := own_form hoO
  have hn : n = (frame p r.op s r.body).length := by
    obtain ⟨A', c', h'⟩ := own_slice hoO
    cases h'
    rfl
  subst hn
  have HBO := Lib.hid hbO
  have HRD := Lib.hid (own_reads' hoO)
  have HL := Lib.hid (frame_len p r s Hr.out)
  clear hbO hoO HO
  generalize hfr : frame p r.op s r.body = fr at *
  have hl := HL.out
  have HE : Hid ((w1.alloc (.cells #[] 5)).drew.ownsRow w1.heap.size 5 1 (.slice (some ⟨w1.heap.size, 0, none⟩) 0 0) ([] : List Int).length (nums .u8 [])) := Lib.hid (own_empty w1 5 w1.heap.size 1 (Nat.le_refl _))
  have HB2 : Hid (Below w1.heap.size w1 (w1.alloc (.cells #[] 5)).drew) := Lib.hid (below_alloc (Below.refl _ _) _).drew
  have HRD2 := Lib.hid (HRD.out.below HB2.out)
  refine start_ (n := 10) (S := fun w' => True) (ds := []) #[false, false, false, false, false, false, false, false, false, false] (by kernel_rfl) rfl rfl trivial (fun hHeld => ?_)
  refine e_o 1 ?_
  refine e_o 3 ?_
  refine one_ (i := 0) (N := some 17) #[true, true, false, true, false, false, false, false, false, false] rfl rfl (by kernel_rfl) (by decide) (fun K hK => ?_)
  refine value_ (w1 := ?_) (v := ?_) (by rfl) rfl ?_ ?_
  rotate_left 2
  · go_simp
    constructor
    · rfl
    · rfl
  refine hK.out _ _ trivial (fun hHeld => ?_)
  clear hK K
  refine norm_ (a' := ?_) ?_ ?_
  rotate_left
  · show Act.put _ (some 17) _ = _
    simp only [Act.put, List.setIfInBounds_toArray, List.set_cons_zero, List.set_cons_succ, i64_w, i32_w]
    rfl
  refine one_ (i := 2) (N := some 19) #[true, true, true, true, false, false, false, false, false, false] rfl rfl (by kernel_rfl) (by decide) (fun K hK => ?_)
  refine app_step (E := _) rfl (.tmp 17) (.tmp 18) 23 23 rfl (.slice (some ⟨w1.heap.size, 0, none⟩) 0 0) _ rfl rfl (ap_row2 23 _ Tryz.underlying23 _ [] fr A _ c HE.out HRD2.out HB2.out.size (by simp only [List.length_nil]; omega)) ?_
  rintro v4 w4 ⟨⟨hown4, hg4⟩, _⟩
  have hl4 : Below w1.heap.size w1 w4 := pw_below_grown HB2.out _ HB2.out.size hg4 (fun k hk => own_base HE.out k hk)
  rw [List.nil_append] at hown4
  obtain ⟨A4, m4, c4, rfl⟩ := own_form hown4
  have HB4 := Lib.hid (below_then HBO.out HBO.out.size hl4)
  have HOwn := Lib.hid hown4
  have HKb4 := Lib.hid (blk_below HKb.out HB4.out)
  have HKk4 := Lib.hid (blk_below HKk.out HB4.out)
  clear hown4 hg4 hl4
  have hcb : w4.cell? ⟨Bb, 0, none⟩ = some (.slice none 0 0) := (cell_of_row _ _ 0 _ _ _ HKb4.out).trans rfl
  have hfb : w4.frozen? ⟨Bb, 0, none⟩ = false := blk_froz HKb4.out
  refine hK.out _ _ trivial (fun hHeld => ?_)
  clear hK K
  refine norm_ (a' := ?_) ?_ ?_
  rotate_left
  · show Act.put _ (some 19) _ = _
    simp only [Act.put, List.setIfInBounds_toArray, List.set_cons_zero, List.set_cons_succ, i64_w, i32_w]
    rfl
  refine e_o 4 ?_
  refine e_o 5 ?_
  refine e_o 6 ?_
  refine e_o 7 ?_
  refine one_ (i := 8) (N := none) #[true, true, true, true, true, true, true, true, true, false] rfl rfl (by kernel_rfl) (by decide) (fun K hK => ?_)
  refine skip_ (w1 := ?_) (by rfl) rfl ?_ ?_
  rotate_left
  · go_simp
    rfl
  have HKk5 : Hid ((w4.setCell ⟨Bb, 0, none⟩ (.slice A4 m4 c4)).heap[Bk]? = some (.cells #[.bool false] 4 (0, 0))) := Lib.hid (setL_far Hne.out [.slice A4 m4 c4] w4 0 HKk4.out)
  have hck : (w4.setCell ⟨Bb, 0, none⟩ (.slice A4 m4 c4)).cell? ⟨Bk, 0, none⟩ = some (.bool false) := (cell_of_row _ _ 0 _ _ _ HKk5.out).trans rfl
  have hfk : (w4.setCell ⟨Bb, 0, none⟩ (.slice A4 m4 c4)).frozen? ⟨Bk, 0, none⟩ = false := blk_froz HKk5.out
  refine hK.out _ _ trivial (fun hHeld => ?_)
  clear hK K
  refine one_ (i := 9) (N := none) #[true, true, true, true, true, true, true, true, true, true] rfl rfl (by kernel_rfl) (by decide) (fun K hK => ?_)
  refine skip_ (w1 := ?_) (by rfl) rfl ?_ ?_
  rotate_left
  · go_simp
    rfl
  refine hK.out _ _ trivial (fun hHeld => ?_)
  clear hK K
  refine done_ (by kernel_rfl) ?_
  have hsz1 := HBO.out.size
  have hltb : Bb < w.heap.size := blk_lt HKb.out
  have hltk : Bk < w.heap.size := blk_lt HKk.out
  go_end0
  have hB4 := below_then HB.out HB.out.size HB4.out
  refine ⟨rfl, (hB4.setCell (p := ⟨Bb, 0, none⟩) hgb _).setCell (p := ⟨Bk, 0, none⟩) hgk _, fun g cs t h1 h2 hg => ?_, (blk_set HKk5.out 0 (.bool true)).trans rfl, .slice A4 m4 c4, ?_, ?_⟩
  · exact setL_far h2 [.bool true] _ 0 (setL_far h1 [.slice A4 m4 c4] _ 0 (blk_below hg HB4.out))
  · exact setL_far (fun h => Hne.out h.symm) [.bool true] _ 0 ((blk_set HKb4.out 0 (.slice A4 m4 c4)).trans rfl)
  · have h1 := own_weaken HOwn.out (Nat.le_trans HB.out.size hsz1)
    have h2 := own_setCell (p := ⟨Bb, 0, none⟩) h1 (own_ne h1 HKb4.out (by decide)) (.slice A4 m4 c4)
    rw [hfr]
    exact own_setCell (p := ⟨Bk, 0, none⟩) h2 (own_ne h2 HKk5.out (by decide)) (.bool true)
theorem blk_new_at (w : World) (o : Obj) (n : Nat) (h : w.heap.size = n) : (w.alloc o).heap[n]? = some o := by rw [← h]; exact heap_alloc_new w o
theorem size_new (w : World) (o : Obj) (n : Nat) (h : w.heap.size = n) : (w.alloc o).heap.size = n + 1 := by simp [h]
theorem format_any (w : World) (p s : Int) (r : IR) (hp : p = 3 ∨ p = 4) (hr : r.ok) (hI : r.In w) :
    Calls Tryz.prog 8 #[.int .i64 p, .int .i64 s, .agg r.cells] w fun e w' => ∃ v, e = .returned (.tuple #[v, .bool true]) ∧ Out w w' v (frame p r.op s r.body) := by
  have hw8 : IntKind.u8.wrap p = p := by rcases hp with rfl | rfl <;> rfl
  have hmf : ∀ (fn : Fn) (first cap : Array Value) (w : World), (Instr.makeFunc fn first cap).run Tryz.prog w = .ok (.func fn first cap) w := fun _ _ _ _ => rfl
  have hq := quietly_22 (R := fun w1 => Below w.heap.size w w1 ∧ w1.heap[w.heap.size + 1 + 1 + 1 + 1]? = some (.cells #[.bool true] 4 (0, 0)) ∧ ∃ v, w1.heap[w.heap.size + 1 + 1 + 1]? = some (.cells #[v] 23 (0, 0)) ∧ w1.ownsRow w.heap.size 5 1 v (frame p r.op s r.body).length (nums .u8 (frame p r.op s r.body)))
    (((((w.alloc (.cells #[.int .i64 p] 3)).alloc (.cells #[.int .i64 s] 3)).alloc (.cells r.cells 31)).alloc (.cells #[.slice none 0 0] 23)).alloc (.cells #[.bool false] 4))
    #[.pointer (some ⟨w.heap.size, 0, none⟩), .pointer (some ⟨w.heap.size + 1, 0, none⟩), .pointer (some ⟨w.heap.size + 1 + 1, 0, none⟩), .pointer (some ⟨w.heap.size + 1 + 1 + 1, 0, none⟩), .pointer (some ⟨w.heap.size + 1 + 1 + 1 + 1, 0, none⟩)] (by
      have s0 := size_new w (.cells #[.int .i64 p] 3) _ rfl
      have s1 := size_new _ (.cells #[.int .i64 s] 3) _ s0
      have s2 := size_new _ (.cells r.cells 31) _ s1
      have s3 := size_new _ (.cells #[.slice none 0 0] 23) _ s2
      have s4 := size_new _ (.cells #[.bool false] 4) _ s3
      have b0 := blk_alloc (blk_alloc (blk_alloc (blk_alloc (blk_alloc (blk_new_at w (.cells #[.int .i64 p] 3) _ rfl) (.cells #[.int .i64 s] 3)) (.cells r.cells 31)) (.cells #[.slice none 0 0] 23)) (.cells #[.bool false] 4)) (.cells #[.bool false] 4)
      have b1 := blk_alloc (blk_alloc (blk_alloc (blk_alloc (blk_new_at _ (.cells #[.int .i64 s] 3) _ s0) (.cells r.cells 31)) (.cells #[.slice none 0 0] 23)) (.cells #[.bool false] 4)) (.cells #[.bool false] 4)
      have b2 := blk_alloc (blk_alloc (blk_alloc (blk_new_at _ (.cells r.cells 31) _ s1) (.cells #[.slice none 0 0] 23)) (.cells #[.bool false] 4)) (.cells #[.bool false] 4)
      have b3 := blk_alloc (blk_alloc (blk_new_at _ (.cells #[.slice none 0 0] 23) _ s2) (.cells #[.bool false] 4)) (.cells #[.bool false] 4)
      have b4 := blk_alloc (blk_new_at _ (.cells #[.bool false] 4) _ s3) (.cells #[.bool false] 4)
      have b5 := blk_new_at _ (.cells #[.bool false] 4) _ s4
      have hbe : Below w.heap.size w ((((((w.alloc (.cells #[.int .i64 p] 3)).alloc (.cells #[.int .i64 s] 3)).alloc (.cells r.cells 31)).alloc (.cells #[.slice none 0 0] 23)).alloc (.cells #[.bool false] 4)).alloc (.cells #[.bool false] 4)) :=
        below_alloc (below_alloc (below_alloc (below_alloc (below_alloc (below_alloc (Below.refl _ _) _) _) _) _) _) _
      rw [s4]
      generalize ((((((w.alloc (.cells #[.int .i64 p] 3)).alloc (.cells #[.int .i64 s] 3)).alloc (.cells r.cells 31)).alloc (.cells #[.slice none 0 0] 23)).alloc (.cells #[.bool false] 4)).alloc (.cells #[.bool false] 4)) = w6 at *
      refine (format1_any w w6 w.heap.size (w.heap.size + 1) (w.heap.size + 1 + 1) (w.heap.size + 1 + 1 + 1) (w.heap.size + 1 + 1 + 1 + 1) p s r hp hr (hI.below_ hbe) hbe (by omega) (by omega) ((cell_of_row _ _ 0 _ _ _ b0).trans rfl) ((cell_of_row _ _ 0 _ _ _ b1).trans rfl) b2 b3 b4).mono ?_
      rintro e w7 ⟨rfl, h1, h2, h3, v, h4, h5⟩
      exact ⟨rfl, h2 _ _ _ (by omega) (by omega) b5, h1, h3, v, h4, h5⟩)
  have s5 : (((((w.alloc (.cells #[.int .i64 p] 3)).alloc (.cells #[.int .i64 s] 3)).alloc (.cells r.cells 31)).alloc (.cells #[.slice none 0 0] 23)).alloc (.cells #[.bool false] 4)).heap.size = w.heap.size + 1 + 1 + 1 + 1 + 1 := by simp
  rw [s5] at hq
  have Hq := Lib.hid hq
  clear hq hI s5
  go_enter Tryz.func8, Tryz.ntmps8
  go_wp2_with fail
  refine Hq.out.mono ?_
  rintro e w' ⟨rfl, w1, ⟨h1, h2, v, h4, h5⟩, h6, rfl⟩
  obtain ⟨A4, m4, c4, rfl⟩ := own_form h5
  have g2 := setL_far (B := w.heap.size + 1 + 1 + 1 + 1 + 1) (g := w.heap.size + 1 + 1 + 1 + 1) (by omega) [.bool true] w1 0 h2
  have g4 := setL_far (B := w.heap.size + 1 + 1 + 1 + 1 + 1) (g := w.heap.size + 1 + 1 + 1) (by omega) [.bool true] w1 0 h4
  have g5 := own_setCell (p := ⟨w.heap.size + 1 + 1 + 1 + 1 + 1, 0, none⟩) h5 (own_ne h5 h6 (by decide)) (.bool true)
  have g1 := h1.setCell (p := ⟨w.heap.size + 1 + 1 + 1 + 1 + 1, 0, none⟩) (by simp; omega) (.bool true)
  have e1 : Go.Proofs.YtammjbmfiakbnaaGreatDoor.setL w1 (w.heap.size + 1 + 1 + 1 + 1 + 1) 0 [.bool true] = w1.setCell ⟨w.heap.size + 1 + 1 + 1 + 1 + 1, 0, none⟩ (.bool true) := rfl
  rw [e1] at g2 g4
  clear e1 h1 h2 h4 h5 h6
  generalize w1.setCell _ _ = w2 at *
  have HB := Lib.hid g1
  have H4 := Lib.hid g4
  have H2 := Lib.hid g2
  have H5 := Lib.hid g5
  have k2 : w2.cell? ⟨w.heap.size + 1 + 1 + 1 + 1, 0, none⟩ = some (.bool true) := (cell_of_row _ _ 0 _ _ _ g2).trans rfl
  have k4 : w2.cell? ⟨w.heap.size + 1 + 1 + 1, 0, none⟩ = some (.slice A4 m4 c4) := (cell_of_row _ _ 0 _ _ _ g4).trans rfl
  have f2 : w2.frozen? ⟨w.heap.size + 1 + 1 + 1 + 1, 0, none⟩ = false := blk_froz g2
  have f4 : w2.frozen? ⟨w.heap.size + 1 + 1 + 1, 0, none⟩ = false := blk_froz g4
  clear g1 g2 g4 g5
  go_wp2
  have n4 : (w2.setCell ⟨w.heap.size + 1 + 1 + 1, 0, none⟩ (.slice A4 m4 c4)).heap[w.heap.size + 1 + 1 + 1]? = some (.cells #[.slice A4 m4 c4] 23 (0, 0)) := (blk_set H4.out 0 (.slice A4 m4 c4)).trans rfl
  have n2 : (w2.setCell ⟨w.heap.size + 1 + 1 + 1, 0, none⟩ (.slice A4 m4 c4)).heap[w.heap.size + 1 + 1 + 1 + 1]? = some (.cells #[.bool true] 4 (0, 0)) := setL_far (by omega) [.slice A4 m4 c4] w2 0 H2.out
  have n4' : ((w2.setCell ⟨w.heap.size + 1 + 1 + 1, 0, none⟩ (.slice A4 m4 c4)).setCell ⟨w.heap.size + 1 + 1 + 1 + 1, 0, none⟩ (.bool true)).heap[w.heap.size + 1 + 1 + 1]? = some (.cells #[.slice A4 m4 c4] 23 (0, 0)) := setL_far (by omega) [.bool true] _ 0 n4
  have n2' : ((w2.setCell ⟨w.heap.size + 1 + 1 + 1, 0, none⟩ (.slice A4 m4 c4)).setCell ⟨w.heap.size + 1 + 1 + 1 + 1, 0, none⟩ (.bool true)).heap[w.heap.size + 1 + 1 + 1 + 1]? = some (.cells #[.bool true] 4 (0, 0)) := (blk_set n2 0 (.bool true)).trans rfl
  have o1 := own_setCell (p := ⟨w.heap.size + 1 + 1 + 1, 0, none⟩) H5.out (own_ne H5.out H4.out (by decide)) (.slice A4 m4 c4)
  have o2 := own_setCell (p := ⟨w.heap.size + 1 + 1 + 1 + 1, 0, none⟩) o1 (own_ne o1 n2 (by decide)) (.bool true)
  have hb := (HB.out.setCell (p := ⟨w.heap.size + 1 + 1 + 1, 0, none⟩) (by simp; omega) (.slice A4 m4 c4)).setCell (p := ⟨w.heap.size + 1 + 1 + 1 + 1, 0, none⟩) (by simp; omega) (.bool true)
  clear n2 n4 o1 k2 k4 f2 f4
  generalize (w2.setCell _ _).setCell _ _ = w3 at *
  have k2 : w3.cell? ⟨w.heap.size + 1 + 1 + 1 + 1, 0, none⟩ = some (.bool true) := (cell_of_row _ _ 0 _ _ _ n2').trans rfl
  have k4 : w3.cell? ⟨w.heap.size + 1 + 1 + 1, 0, none⟩ = some (.slice A4 m4 c4) := (cell_of_row _ _ 0 _ _ _ n4').trans rfl
  refine bodyPost_ret (v := .tuple #[.slice A4 m4 c4, .bool true]) ?_ rfl ⟨_, rfl, hb, o2⟩
  simp [results, Tryz.results8, go_sem, k2, k4]
end Go.Proofs.YtammjbmfiakbnaaGreatDoor
