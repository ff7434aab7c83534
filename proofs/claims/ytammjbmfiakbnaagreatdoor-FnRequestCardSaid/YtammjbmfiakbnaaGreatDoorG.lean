/-
  The reference's check of a request: what holds for every kind.
-/
import Derived.Test.YtammjbmfiakbnaaGreatDoorE3
namespace Go.Proofs.YtammjbmfiakbnaaGreatDoor
set_option maxHeartbeats 2000000
set_option maxRecDepth 100000
set_option linter.unusedSimpArgs false
set_option linter.unusedVariables false
open Go.RowKit Go.Proofs.YtammjbmfiakbnaaGreatDoorW.PrintWords Go.Proofs.YtammjbmfiakbnaaGreatDoorW.PrintLast Go.Proofs.YtammjbmfiakbnaaGreatDoorW.PrintMore
open Go.Proofs.YtammjbmfiakbnaaGreatDoor.PFnRequest
theorem fr263 (a : Act) (hd : a.defers = []) (hs : a.tmps.size = 263) : ∃ g : Nat → Value, a = ⟨#[g 0, g 1, g 2, g 3, g 4, g 5, g 6, g 7, g 8, g 9, g 10, g 11, g 12, g 13, g 14, g 15, g 16, g 17, g 18, g 19, g 20, g 21, g 22, g 23, g 24, g 25, g 26, g 27, g 28, g 29, g 30, g 31, g 32, g 33, g 34, g 35, g 36, g 37, g 38, g 39, g 40, g 41, g 42, g 43, g 44, g 45, g 46, g 47, g 48, g 49, g 50, g 51, g 52, g 53, g 54, g 55, g 56, g 57, g 58, g 59, g 60, g 61, g 62, g 63, g 64, g 65, g 66, g 67, g 68, g 69, g 70, g 71, g 72, g 73, g 74, g 75, g 76, g 77, g 78, g 79, g 80, g 81, g 82, g 83, g 84, g 85, g 86, g 87, g 88, g 89, g 90, g 91, g 92, g 93, g 94, g 95, g 96, g 97, g 98, g 99, g 100, g 101, g 102, g 103, g 104, g 105, g 106, g 107, g 108, g 109, g 110, g 111, g 112, g 113, g 114, g 115, g 116, g 117, g 118, g 119, g 120, g 121, g 122, g 123, g 124, g 125, g 126, g 127, g 128, g 129, g 130, g 131, g 132, g 133, g 134, g 135, g 136, g 137, g 138, g 139, g 140, g 141, g 142, g 143, g 144, g 145, g 146, g 147, g 148, g 149, g 150, g 151, g 152, g 153, g 154, g 155, g 156, g 157, g 158, g 159, g 160, g 161, g 162, g 163, g 164, g 165, g 166, g 167, g 168, g 169, g 170, g 171, g 172, g 173, g 174, g 175, g 176, g 177, g 178, g 179, g 180, g 181, g 182, g 183, g 184, g 185, g 186, g 187, g 188, g 189, g 190, g 191, g 192, g 193, g 194, g 195, g 196, g 197, g 198, g 199, g 200, g 201, g 202, g 203, g 204, g 205, g 206, g 207, g 208, g 209, g 210, g 211, g 212, g 213, g 214, g 215, g 216, g 217, g 218, g 219, g 220, g 221, g 222, g 223, g 224, g 225, g 226, g 227, g 228, g 229, g 230, g 231, g 232, g 233, g 234, g 235, g 236, g 237, g 238, g 239, g 240, g 241, g 242, g 243, g 244, g 245, g 246, g 247, g 248, g 249, g 250, g 251, g 252, g 253, g 254, g 255, g 256, g 257, g 258, g 259, g 260, g 261, g 262], []⟩ := by
  have e := frame_open 263 a hd hs
  have e2 : ((List.range 263).map (fun t => a.tmps.getD t undef)).toArray = #[a.tmps.getD 0 undef, a.tmps.getD 1 undef, a.tmps.getD 2 undef, a.tmps.getD 3 undef, a.tmps.getD 4 undef, a.tmps.getD 5 undef, a.tmps.getD 6 undef, a.tmps.getD 7 undef, a.tmps.getD 8 undef, a.tmps.getD 9 undef, a.tmps.getD 10 undef, a.tmps.getD 11 undef, a.tmps.getD 12 undef, a.tmps.getD 13 undef, a.tmps.getD 14 undef, a.tmps.getD 15 undef, a.tmps.getD 16 undef, a.tmps.getD 17 undef, a.tmps.getD 18 undef, a.tmps.getD 19 undef, a.tmps.getD 20 undef, a.tmps.getD 21 undef, a.tmps.getD 22 undef, a.tmps.getD 23 undef, a.tmps.getD 24 undef, a.tmps.getD 25 undef, a.tmps.getD 26 undef, a.tmps.getD 27 undef, a.tmps.getD 28 undef, a.tmps.getD 29 undef, a.tmps.getD 30 undef, a.tmps.getD 31 undef, a.tmps.getD 32 undef, a.tmps.getD 33 undef, a.tmps.getD 34 undef, a.tmps.getD 35 undef, a.tmps.getD 36 undef, a.tmps.getD 37 undef, a.tmps.getD 38 undef, a.tmps.getD 39 undef, a.tmps.getD 40 undef, a.tmps.getD 41 undef, a.tmps.getD 42 undef, a.tmps.getD 43 undef, a.tmps.getD 44 undef, a.tmps.getD 45 undef, a.tmps.getD 46 undef, a.tmps.getD 47 undef, a.tmps.getD 48 undef, a.tmps.getD 49 undef, a.tmps.getD 50 undef, a.tmps.getD 51 undef, a.tmps.getD 52 undef, a.tmps.getD 53 undef, a.tmps.getD 54 undef, a.tmps.getD 55 undef, a.tmps.getD 56 undef, a.tmps.getD 57 undef, a.tmps.getD 58 undef, a.tmps.getD 59 undef, a.tmps.getD 60 undef, a.tmps.getD 61 undef, a.tmps.getD 62 undef, a.tmps.getD 63 undef, a.tmps.getD 64 undef, a.tmps.getD 65 undef, a.tmps.getD 66 undef, a.tmps.getD 67 undef, a.tmps.getD 68 undef, a.tmps.getD 69 undef, a.tmps.getD 70 undef, a.tmps.getD 71 undef, a.tmps.getD 72 undef, a.tmps.getD 73 undef, a.tmps.getD 74 undef, a.tmps.getD 75 undef, a.tmps.getD 76 undef, a.tmps.getD 77 undef, a.tmps.getD 78 undef, a.tmps.getD 79 undef, a.tmps.getD 80 undef, a.tmps.getD 81 undef, a.tmps.getD 82 undef, a.tmps.getD 83 undef, a.tmps.getD 84 undef, a.tmps.getD 85 undef, a.tmps.getD 86 undef, a.tmps.getD 87 undef, a.tmps.getD 88 undef, a.tmps.getD 89 undef, a.tmps.getD 90 undef, a.tmps.getD 91 undef, a.tmps.getD 92 undef, a.tmps.getD 93 undef, a.tmps.getD 94 undef, a.tmps.getD 95 undef, a.tmps.getD 96 undef, a.tmps.getD 97 undef, a.tmps.getD 98 undef, a.tmps.getD 99 undef, a.tmps.getD 100 undef, a.tmps.getD 101 undef, a.tmps.getD 102 undef, a.tmps.getD 103 undef, a.tmps.getD 104 undef, a.tmps.getD 105 undef, a.tmps.getD 106 undef, a.tmps.getD 107 undef, a.tmps.getD 108 undef, a.tmps.getD 109 undef, a.tmps.getD 110 undef, a.tmps.getD 111 undef, a.tmps.getD 112 undef, a.tmps.getD 113 undef, a.tmps.getD 114 undef, a.tmps.getD 115 undef, a.tmps.getD 116 undef, a.tmps.getD 117 undef, a.tmps.getD 118 undef, a.tmps.getD 119 undef, a.tmps.getD 120 undef, a.tmps.getD 121 undef, a.tmps.getD 122 undef, a.tmps.getD 123 undef, a.tmps.getD 124 undef, a.tmps.getD 125 undef, a.tmps.getD 126 undef, a.tmps.getD 127 undef, a.tmps.getD 128 undef, a.tmps.getD 129 undef, a.tmps.getD 130 undef, a.tmps.getD 131 undef, a.tmps.getD 132 undef, a.tmps.getD 133 undef, a.tmps.getD 134 undef, a.tmps.getD 135 undef, a.tmps.getD 136 undef, a.tmps.getD 137 undef, a.tmps.getD 138 undef, a.tmps.getD 139 undef, a.tmps.getD 140 undef, a.tmps.getD 141 undef, a.tmps.getD 142 undef, a.tmps.getD 143 undef, a.tmps.getD 144 undef, a.tmps.getD 145 undef, a.tmps.getD 146 undef, a.tmps.getD 147 undef, a.tmps.getD 148 undef, a.tmps.getD 149 undef, a.tmps.getD 150 undef, a.tmps.getD 151 undef, a.tmps.getD 152 undef, a.tmps.getD 153 undef, a.tmps.getD 154 undef, a.tmps.getD 155 undef, a.tmps.getD 156 undef, a.tmps.getD 157 undef, a.tmps.getD 158 undef, a.tmps.getD 159 undef, a.tmps.getD 160 undef, a.tmps.getD 161 undef, a.tmps.getD 162 undef, a.tmps.getD 163 undef, a.tmps.getD 164 undef, a.tmps.getD 165 undef, a.tmps.getD 166 undef, a.tmps.getD 167 undef, a.tmps.getD 168 undef, a.tmps.getD 169 undef, a.tmps.getD 170 undef, a.tmps.getD 171 undef, a.tmps.getD 172 undef, a.tmps.getD 173 undef, a.tmps.getD 174 undef, a.tmps.getD 175 undef, a.tmps.getD 176 undef, a.tmps.getD 177 undef, a.tmps.getD 178 undef, a.tmps.getD 179 undef, a.tmps.getD 180 undef, a.tmps.getD 181 undef, a.tmps.getD 182 undef, a.tmps.getD 183 undef, a.tmps.getD 184 undef, a.tmps.getD 185 undef, a.tmps.getD 186 undef, a.tmps.getD 187 undef, a.tmps.getD 188 undef, a.tmps.getD 189 undef, a.tmps.getD 190 undef, a.tmps.getD 191 undef, a.tmps.getD 192 undef, a.tmps.getD 193 undef, a.tmps.getD 194 undef, a.tmps.getD 195 undef, a.tmps.getD 196 undef, a.tmps.getD 197 undef, a.tmps.getD 198 undef, a.tmps.getD 199 undef, a.tmps.getD 200 undef, a.tmps.getD 201 undef, a.tmps.getD 202 undef, a.tmps.getD 203 undef, a.tmps.getD 204 undef, a.tmps.getD 205 undef, a.tmps.getD 206 undef, a.tmps.getD 207 undef, a.tmps.getD 208 undef, a.tmps.getD 209 undef, a.tmps.getD 210 undef, a.tmps.getD 211 undef, a.tmps.getD 212 undef, a.tmps.getD 213 undef, a.tmps.getD 214 undef, a.tmps.getD 215 undef, a.tmps.getD 216 undef, a.tmps.getD 217 undef, a.tmps.getD 218 undef, a.tmps.getD 219 undef, a.tmps.getD 220 undef, a.tmps.getD 221 undef, a.tmps.getD 222 undef, a.tmps.getD 223 undef, a.tmps.getD 224 undef, a.tmps.getD 225 undef, a.tmps.getD 226 undef, a.tmps.getD 227 undef, a.tmps.getD 228 undef, a.tmps.getD 229 undef, a.tmps.getD 230 undef, a.tmps.getD 231 undef, a.tmps.getD 232 undef, a.tmps.getD 233 undef, a.tmps.getD 234 undef, a.tmps.getD 235 undef, a.tmps.getD 236 undef, a.tmps.getD 237 undef, a.tmps.getD 238 undef, a.tmps.getD 239 undef, a.tmps.getD 240 undef, a.tmps.getD 241 undef, a.tmps.getD 242 undef, a.tmps.getD 243 undef, a.tmps.getD 244 undef, a.tmps.getD 245 undef, a.tmps.getD 246 undef, a.tmps.getD 247 undef, a.tmps.getD 248 undef, a.tmps.getD 249 undef, a.tmps.getD 250 undef, a.tmps.getD 251 undef, a.tmps.getD 252 undef, a.tmps.getD 253 undef, a.tmps.getD 254 undef, a.tmps.getD 255 undef, a.tmps.getD 256 undef, a.tmps.getD 257 undef, a.tmps.getD 258 undef, a.tmps.getD 259 undef, a.tmps.getD 260 undef, a.tmps.getD 261 undef, a.tmps.getD 262 undef] := rfl
  exact ⟨fun t => a.tmps.getD t undef, e.trans (by rw [e2])⟩
noncomputable def c6 (k : Nat) : Code := nth k (Tryz.f6.body.getD .skip)
noncomputable def t6 (k : Nat) : Code := tl k (Tryz.f6.body.getD .skip)
/-- The slots that are known. -/
def I6 (v s : Int) (K : Nat) (a : Act) : Prop := a.defers = [] ∧ a.tmps.size = 263 ∧ a.tmps.getD 0 undef = .int .i64 v ∧ a.tmps.getD 1 undef = .int .i64 s ∧ a.tmps.getD 5 undef = .pointer (some ⟨K, 0, none⟩)
/-- Where the region stands: slot k holds a test of what is before. -/
def J6 (w0 : World) (v s : Int) (K : Nat) (cs : Array Value) (k : Nat) (P : Prop) (a : Act) (w : World) : Prop := I6 v s K a ∧ (∃ b, a.tmps.getD k undef = .bool b ∧ (b = false → P)) ∧ Below w0.heap.size w0 w ∧ w.heap[K]? = some (.cells cs 39 (0, 0))
/-- What holds for every kind. -/
def P6 (v s : Int) (r : IR) : Prop := (v = 3 ∨ v = 4) ∧ 0 ≤ s ∧ s ≤ 32767 ∧ r.text.size ≤ 100 ∧ r.data.length ≤ 100 ∧ r.id.length ≤ 100 ∧ r.opts.length ≤ 10 ∧ r.ev.length ≤ 10 ∧ r.sts.length ≤ 10
set_option maxHeartbeats 20000000 in
theorem p6_1 {KK : Act → World → Prop} {PP : Prop} {w0 W : World} {v s : Int} {K : Nat} {r : IR} {Ao A As : Option Addr} {co c cs : Nat} {a : Act} (hI : I6 v s K a) (hB : Below w0.heap.size w0 W) (hK : W.heap[K]? = some (.cells (r.sc Ao co A c As cs) 39 (0, 0))) (hft : Ft r.text.size)
    (h : ∀ a' w', I6 v s K a' → Below w0.heap.size w0 w' → w'.heap[K]? = some (.cells (r.sc Ao co A c As cs) 39 (0, 0)) → P6 v s r → KK a' w') : Code.wp Tryz.prog (c6 1) (Exit.then KK (bodyPost Tryz.prog Tryz.f6 (Yes w0 PP))) a W := by
  have HH := Lib.hid h
  clear h
  obtain ⟨hd, hs, h0, h1, h5⟩ := hI
  obtain ⟨g, rfl⟩ := fr263 a hd hs
  have g0 : g 0 = .int .i64 v := h0
  have g1 : g 1 = .int .i64 s := h1
  have g5 : g 5 = .pointer (some ⟨K, 0, none⟩) := h5
  rw [g0, g1, g5]
  clear hd hs h0 h1 h5 g0 g1 g5
  conv => arg 2; whnf
  refine wp_seq ?_
  refine l_start ?_
  refine l_cut 0 6 (J6 w0 v s K (r.sc Ao co A c As cs) 19 ((v = 3 ∨ v = 4))) ?_ (fun C0 => ?_)
  rotate_left
  · have C := Lib.hid C0
    clear C0
    by_cases h1 : v = 3
    · have d1 : (v != 3) = false := by simp [h1]
      iterate 6 (first | refine l_f ?_ | refine l_o ?_)
      exact C.out _ _ ⟨⟨rfl, rfl, rfl, rfl, rfl⟩, ⟨_, rfl, fun _ => .inl h1⟩, hB, hK⟩
    · have d1 : (v != 3) = true := by simp [h1]
      iterate 6 (first | refine l_f ?_ | refine l_o ?_)
      exact C.out _ _ ⟨⟨rfl, rfl, rfl, rfl, rfl⟩, ⟨_, rfl, fun h => .inr (by simpa using h)⟩, hB, hK⟩
  intro a wr hJ
  obtain ⟨⟨hd, hs, h0, h1, h5⟩, ⟨b, hb, hP⟩, hB, hK⟩ := hJ
  obtain ⟨g, rfl⟩ := fr263 a hd hs
  have g0 : g 0 = .int .i64 v := h0
  have g1 : g 1 = .int .i64 s := h1
  have g5 : g 5 = .pointer (some ⟨K, 0, none⟩) := h5
  have gk : g 19 = .bool b := hb
  rw [g0, g1, g5, gk]
  clear hd hs h0 h1 h5 hb g0 g1 g5 gk
  refine l_cut 6 10 (J6 w0 v s K (r.sc Ao co A c As cs) 23 ((v = 3 ∨ v = 4) ∧ 0 ≤ s)) ?_ (fun C0 => ?_)
  rotate_left
  · have C := Lib.hid C0
    clear C0
    cases b with
    | true =>
      clear hP
      iterate 4 (first | refine l_f ?_ | refine l_o ?_)
      exact C.out _ _ ⟨⟨rfl, rfl, rfl, rfl, rfl⟩, ⟨_, rfl, fun h => by cases h⟩, hB, hK⟩
    | false =>
      have hp := hP rfl
      iterate 4 (first | refine l_f ?_ | refine l_o ?_)
      exact C.out _ _ ⟨⟨rfl, rfl, rfl, rfl, rfl⟩, ⟨_, rfl, fun h => ⟨hp, by simp at h; omega⟩⟩, hB, hK⟩
  intro a wr hJ
  obtain ⟨⟨hd, hs, h0, h1, h5⟩, ⟨b, hb, hP⟩, hB, hK⟩ := hJ
  obtain ⟨g, rfl⟩ := fr263 a hd hs
  have g0 : g 0 = .int .i64 v := h0
  have g1 : g 1 = .int .i64 s := h1
  have g5 : g 5 = .pointer (some ⟨K, 0, none⟩) := h5
  have gk : g 23 = .bool b := hb
  rw [g0, g1, g5, gk]
  clear hd hs h0 h1 h5 hb g0 g1 g5 gk
  refine l_cut 10 14 (J6 w0 v s K (r.sc Ao co A c As cs) 27 ((v = 3 ∨ v = 4) ∧ 0 ≤ s ∧ s ≤ 32767)) ?_ (fun C0 => ?_)
  rotate_left
  · have C := Lib.hid C0
    clear C0
    cases b with
    | true =>
      clear hP
      iterate 4 (first | refine l_f ?_ | refine l_o ?_)
      exact C.out _ _ ⟨⟨rfl, rfl, rfl, rfl, rfl⟩, ⟨_, rfl, fun h => by cases h⟩, hB, hK⟩
    | false =>
      have hp := hP rfl
      iterate 4 (first | refine l_f ?_ | refine l_o ?_)
      exact C.out _ _ ⟨⟨rfl, rfl, rfl, rfl, rfl⟩, ⟨_, rfl, fun h => ⟨hp.1, hp.2, by simp at h; omega⟩⟩, hB, hK⟩
  intro a wr hJ
  obtain ⟨⟨hd, hs, h0, h1, h5⟩, ⟨b, hb, hP⟩, hB, hK⟩ := hJ
  obtain ⟨g, rfl⟩ := fr263 a hd hs
  have g0 : g 0 = .int .i64 v := h0
  have g1 : g 1 = .int .i64 s := h1
  have g5 : g 5 = .pointer (some ⟨K, 0, none⟩) := h5
  have gk : g 27 = .bool b := hb
  rw [g0, g1, g5, gk]
  clear hd hs h0 h1 h5 hb g0 g1 g5 gk
  refine l_cut 14 20 (J6 w0 v s K (r.sc Ao co A c As cs) 33 ((v = 3 ∨ v = 4) ∧ 0 ≤ s ∧ s ≤ 32767 ∧ r.text.size ≤ 100)) ?_ (fun C0 => ?_)
  rotate_left
  · have C := Lib.hid C0
    clear C0
    cases b with
    | true =>
      clear hP
      iterate 6 (first | refine l_f ?_ | refine l_o ?_)
      exact C.out _ _ ⟨⟨rfl, rfl, rfl, rfl, rfl⟩, ⟨_, rfl, fun h => by cases h⟩, hB, hK⟩
    | false =>
      have hp := hP rfl
      have c2 := (cell_of_row _ _ 2 _ _ _ hK).trans rfl
      iterate 3 (first | refine l_f ?_ | refine l_o ?_)
      refine l_any 17 (N := some 31) rfl rfl fun K1 hK0 => ?_
      refine goes_ Tryz.func15 (by kernel_rfl) rfl #[.string r.text] (by rfl) rfl rfl (by simp only [List.map_toArray, List.map_cons, List.map_nil]; rfl) ?_
      with_reducible refine (ascii_any wr r.text hft).mono ?_
      rintro e w3 ⟨b3, rfl, hb3, hP3⟩
      refine ⟨_, rfl, ?_⟩
      refine hK0.out _ _ ?_
      clear hK0 K1
      refine l_norm (by (show Act.put _ (some 31) _ = _; simp only [Act.put, List.setIfInBounds_toArray, List.set_cons_zero, List.set_cons_succ, i64_w, i32_w]; rfl)) ?_
      iterate 2 (first | refine l_f ?_ | refine l_o ?_)
      exact C.out _ _ ⟨⟨rfl, rfl, rfl, rfl, rfl⟩, ⟨_, rfl, fun h => ⟨hp.1, hp.2.1, hp.2.2, hP3 (by simpa using h)⟩⟩, (below_then hB hB.size hb3), (blk_below hK hb3)⟩
  intro a wr hJ
  obtain ⟨⟨hd, hs, h0, h1, h5⟩, ⟨b, hb, hP⟩, hB, hK⟩ := hJ
  obtain ⟨g, rfl⟩ := fr263 a hd hs
  have g0 : g 0 = .int .i64 v := h0
  have g1 : g 1 = .int .i64 s := h1
  have g5 : g 5 = .pointer (some ⟨K, 0, none⟩) := h5
  have gk : g 33 = .bool b := hb
  rw [g0, g1, g5, gk]
  clear hd hs h0 h1 h5 hb g0 g1 g5 gk
  refine l_cut 20 26 (J6 w0 v s K (r.sc Ao co A c As cs) 39 ((v = 3 ∨ v = 4) ∧ 0 ≤ s ∧ s ≤ 32767 ∧ r.text.size ≤ 100 ∧ r.data.length ≤ 100)) ?_ (fun C0 => ?_)
  rotate_left
  · have C := Lib.hid C0
    clear C0
    cases b with
    | true =>
      clear hP
      iterate 6 (first | refine l_f ?_ | refine l_o ?_)
      exact C.out _ _ ⟨⟨rfl, rfl, rfl, rfl, rfl⟩, ⟨_, rfl, fun h => by cases h⟩, hB, hK⟩
    | false =>
      have hp := hP rfl
      have c14 := (cell_of_row _ _ 14 _ _ _ hK).trans rfl
      iterate 6 (first | refine l_f ?_ | refine l_o ?_)
      exact C.out _ _ ⟨⟨rfl, rfl, rfl, rfl, rfl⟩, ⟨_, rfl, fun h => ⟨hp.1, hp.2.1, hp.2.2.1, hp.2.2.2, by simp at h; omega⟩⟩, hB, hK⟩
  intro a wr hJ
  obtain ⟨⟨hd, hs, h0, h1, h5⟩, ⟨b, hb, hP⟩, hB, hK⟩ := hJ
  obtain ⟨g, rfl⟩ := fr263 a hd hs
  have g0 : g 0 = .int .i64 v := h0
  have g1 : g 1 = .int .i64 s := h1
  have g5 : g 5 = .pointer (some ⟨K, 0, none⟩) := h5
  have gk : g 39 = .bool b := hb
  rw [g0, g1, g5, gk]
  clear hd hs h0 h1 h5 hb g0 g1 g5 gk
  refine l_cut 26 32 (J6 w0 v s K (r.sc Ao co A c As cs) 45 ((v = 3 ∨ v = 4) ∧ 0 ≤ s ∧ s ≤ 32767 ∧ r.text.size ≤ 100 ∧ r.data.length ≤ 100 ∧ r.id.length ≤ 100)) ?_ (fun C0 => ?_)
  rotate_left
  · have C := Lib.hid C0
    clear C0
    cases b with
    | true =>
      clear hP
      iterate 6 (first | refine l_f ?_ | refine l_o ?_)
      exact C.out _ _ ⟨⟨rfl, rfl, rfl, rfl, rfl⟩, ⟨_, rfl, fun h => by cases h⟩, hB, hK⟩
    | false =>
      have hp := hP rfl
      have c3 := (cell_of_row _ _ 3 _ _ _ hK).trans rfl
      iterate 6 (first | refine l_f ?_ | refine l_o ?_)
      exact C.out _ _ ⟨⟨rfl, rfl, rfl, rfl, rfl⟩, ⟨_, rfl, fun h => ⟨hp.1, hp.2.1, hp.2.2.1, hp.2.2.2.1, hp.2.2.2.2, by simp at h; omega⟩⟩, hB, hK⟩
  intro a wr hJ
  obtain ⟨⟨hd, hs, h0, h1, h5⟩, ⟨b, hb, hP⟩, hB, hK⟩ := hJ
  obtain ⟨g, rfl⟩ := fr263 a hd hs
  have g0 : g 0 = .int .i64 v := h0
  have g1 : g 1 = .int .i64 s := h1
  have g5 : g 5 = .pointer (some ⟨K, 0, none⟩) := h5
  have gk : g 45 = .bool b := hb
  rw [g0, g1, g5, gk]
  clear hd hs h0 h1 h5 hb g0 g1 g5 gk
  refine l_cut 32 38 (J6 w0 v s K (r.sc Ao co A c As cs) 51 ((v = 3 ∨ v = 4) ∧ 0 ≤ s ∧ s ≤ 32767 ∧ r.text.size ≤ 100 ∧ r.data.length ≤ 100 ∧ r.id.length ≤ 100 ∧ r.opts.length ≤ 10)) ?_ (fun C0 => ?_)
  rotate_left
  · have C := Lib.hid C0
    clear C0
    cases b with
    | true =>
      clear hP
      iterate 6 (first | refine l_f ?_ | refine l_o ?_)
      exact C.out _ _ ⟨⟨rfl, rfl, rfl, rfl, rfl⟩, ⟨_, rfl, fun h => by cases h⟩, hB, hK⟩
    | false =>
      have hp := hP rfl
      have c1 := (cell_of_row _ _ 1 _ _ _ hK).trans rfl
      iterate 6 (first | refine l_f ?_ | refine l_o ?_)
      exact C.out _ _ ⟨⟨rfl, rfl, rfl, rfl, rfl⟩, ⟨_, rfl, fun h => ⟨hp.1, hp.2.1, hp.2.2.1, hp.2.2.2.1, hp.2.2.2.2.1, hp.2.2.2.2.2, by simp at h; omega⟩⟩, hB, hK⟩
  intro a wr hJ
  obtain ⟨⟨hd, hs, h0, h1, h5⟩, ⟨b, hb, hP⟩, hB, hK⟩ := hJ
  obtain ⟨g, rfl⟩ := fr263 a hd hs
  have g0 : g 0 = .int .i64 v := h0
  have g1 : g 1 = .int .i64 s := h1
  have g5 : g 5 = .pointer (some ⟨K, 0, none⟩) := h5
  have gk : g 51 = .bool b := hb
  rw [g0, g1, g5, gk]
  clear hd hs h0 h1 h5 hb g0 g1 g5 gk
  refine l_cut 38 44 (J6 w0 v s K (r.sc Ao co A c As cs) 57 ((v = 3 ∨ v = 4) ∧ 0 ≤ s ∧ s ≤ 32767 ∧ r.text.size ≤ 100 ∧ r.data.length ≤ 100 ∧ r.id.length ≤ 100 ∧ r.opts.length ≤ 10 ∧ r.ev.length ≤ 10)) ?_ (fun C0 => ?_)
  rotate_left
  · have C := Lib.hid C0
    clear C0
    cases b with
    | true =>
      clear hP
      iterate 6 (first | refine l_f ?_ | refine l_o ?_)
      exact C.out _ _ ⟨⟨rfl, rfl, rfl, rfl, rfl⟩, ⟨_, rfl, fun h => by cases h⟩, hB, hK⟩
    | false =>
      have hp := hP rfl
      have c11 := (cell_of_row _ _ 11 _ _ _ hK).trans rfl
      iterate 6 (first | refine l_f ?_ | refine l_o ?_)
      exact C.out _ _ ⟨⟨rfl, rfl, rfl, rfl, rfl⟩, ⟨_, rfl, fun h => ⟨hp.1, hp.2.1, hp.2.2.1, hp.2.2.2.1, hp.2.2.2.2.1, hp.2.2.2.2.2.1, hp.2.2.2.2.2.2, by simp at h; omega⟩⟩, hB, hK⟩
  intro a wr hJ
  obtain ⟨⟨hd, hs, h0, h1, h5⟩, ⟨b, hb, hP⟩, hB, hK⟩ := hJ
  obtain ⟨g, rfl⟩ := fr263 a hd hs
  have g0 : g 0 = .int .i64 v := h0
  have g1 : g 1 = .int .i64 s := h1
  have g5 : g 5 = .pointer (some ⟨K, 0, none⟩) := h5
  have gk : g 57 = .bool b := hb
  rw [g0, g1, g5, gk]
  clear hd hs h0 h1 h5 hb g0 g1 g5 gk
  · skip
    cases b with
    | true =>
      clear hP
      iterate 6 (first | refine l_f ?_ | refine l_o ?_)
      refine l_done 50 rfl ?_
      simp only [Exit.then]
      conv => arg 2; whnf
      go_wp2
      go_ret
      exact Yes.no hB
    | false =>
      have hp := hP rfl
      have c13 := (cell_of_row _ _ 13 _ _ _ hK).trans rfl
      by_cases hz : r.sts.length ≤ 10
      · have d1 : decide (10 < r.sts.length) = false := decide_eq_false (by omega)
        have d2 : decide ((10 : Int) < (r.sts.length : Int)) = false := decide_eq_false (by omega)
        iterate 6 (first | refine l_f ?_ | refine l_o ?_)
        refine l_done 50 rfl ?_
        simp only [Exit.then]
        conv => arg 2; whnf
        go_wp2
        exact HH.out _ _ ⟨rfl, rfl, rfl, rfl, rfl⟩ hB hK ⟨hp.1, hp.2.1, hp.2.2.1, hp.2.2.2.1, hp.2.2.2.2.1, hp.2.2.2.2.2.1, hp.2.2.2.2.2.2.1, hp.2.2.2.2.2.2.2, hz⟩
      · have d1 : decide (10 < r.sts.length) = true := decide_eq_true (by omega)
        have d2 : decide ((10 : Int) < (r.sts.length : Int)) = true := decide_eq_true (by omega)
        iterate 6 (first | refine l_f ?_ | refine l_o ?_)
        refine l_done 50 rfl ?_
        simp only [Exit.then]
        conv => arg 2; whnf
        go_wp2
        go_ret
        exact Yes.no hB
end Go.Proofs.YtammjbmfiakbnaaGreatDoor
