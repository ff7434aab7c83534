/-
  The words of this proof: a writer of the reference and a framer of the package as they lie in memory, and what one append and one store do to them. (Any world; no condition.) The reference's writer: what each of its methods appends. (Where all lengths stay below a thousand million.) The framer's small methods: what each appends to the framer's buffer. (Where all lengths stay below a thousand million.)
-/
import Derived.Test.YtammjbmfiakbnaaGreatDoorProg
import Derived.WalkKit
import Derived.WalkSpells
import Derived.WalkLawsBesides
import Derived.Deep.AppendLies
import Derived.Lib.Hide
import Derived.Deep.LoopGhost
import Derived.Lib.AppendStr
import Derived.Test.YtammjbmfiakbnaaGreatDoorWMore
import Derived.Test.YtammjbmfiakbnaaGreatDoorWInvWords
import Derived.Test.YtammjbmfiakbnaaGreatDoorWFour
namespace Go.Proofs.YtammjbmfiakbnaaGreatDoor
set_option maxHeartbeats 2000000
set_option maxRecDepth 100000
set_option linter.unusedSimpArgs false
set_option linter.unusedVariables false
open Go.RowKit Go.Proofs.YtammjbmfiakbnaaGreatDoorW.PrintWords Go.Proofs.YtammjbmfiakbnaaGreatDoorW.PrintLast Go.Proofs.YtammjbmfiakbnaaGreatDoorW.PrintMore
theorem info5 : (Tryz.prog.info? 5).map (fun i => (i.zero, i.size, i.bytes)) = some (some (.int .u8 0), 1, 1) := by kernel_rfl
/-- n's lowest k bytes, the highest one first. -/
def be : Nat → Int → List Int
  | 0, _ => []
  | k + 1, n => (n / 256 ^ k) % 256 :: be k n
theorem be_length (n : Int) : ∀ k, (be k n).length = k
  | 0 => rfl
  | k + 1 => by simp [be, be_length n k]
theorem byte_of (n : Int) (j : Nat) : IntKind.u8.wrap (n / 2 ^ (8 * (j : Int)).toNat) = n / 256 ^ j % 256 := by
  have h1 : (8 * (j : Int)).toNat = 8 * j := by omega
  rw [h1, Int.pow_mul]
  simp [IntKind.wrap_u8]
/-- A writer at block G that holds bs; all that stood in wB stands. -/
def Wr (wB W : World) (G : Nat) (bs : List Int) : Prop :=
  Below wB.heap.size wB W ∧ wB.heap.size ≤ G ∧ ∃ v, W.heap[G]? = some (.cells #[v] 81 (0, 0)) ∧ W.ownsRow wB.heap.size 5 1 v bs.length (nums .u8 bs)
/-- A framer's cells: its version, its buffer. -/
abbrev frc (p : Int) (rb v : Value) : Array Value := #[.int .u8 p, .int .u8 0, .nilIface, .int .i64 9, .pointer none, .slice none 0 0, rb, v, .map none]
/-- A framer at block F whose buffer holds bs. -/
def Fr (wB W : World) (F : Nat) (p : Int) (bs : List Int) : Prop :=
  Below wB.heap.size wB W ∧ wB.heap.size ≤ F ∧ ∃ rb v, W.heap[F]? = some (.cells (frc p rb v) 278 (0, 0)) ∧ W.ownsRow wB.heap.size 5 1 v bs.length (nums .u8 bs)
section
variable {wB W w1 : World} {G F : Nat} {p : Int} {bs cs : List Int} {v v' rb : Value}
theorem Wr.size (h : Wr wB W G bs) : wB.heap.size ≤ W.heap.size := h.1.size
theorem Fr.size (h : Fr wB W F p bs) : wB.heap.size ≤ W.heap.size := h.1.size
theorem Wr.below_ (h : Wr wB W G bs) (hb : Below W.heap.size W w1) : Wr wB w1 G bs := by
  obtain ⟨h1, h2, v, h3, h4⟩ := h
  exact ⟨below_then h1 h1.size hb, h2, v, blk_below h3 hb, pw_own_below h4 hb⟩
theorem Fr.below_ (h : Fr wB W F p bs) (hb : Below W.heap.size W w1) : Fr wB w1 F p bs := by
  obtain ⟨h1, h2, rb, v, h3, h4⟩ := h
  exact ⟨below_then h1 h1.size hb, h2, rb, v, blk_below h3 hb, pw_own_below h4 hb⟩
theorem Wr.alloc (h : Wr wB W G bs) (o : Obj) : Wr wB (W.alloc o) G bs := h.below_ (below_alloc (Below.refl _ _) o)
theorem Fr.alloc (h : Fr wB W F p bs) (o : Obj) : Fr wB (W.alloc o) F p bs := h.below_ (below_alloc (Below.refl _ _) o)
theorem Wr.drew (h : Wr wB W G bs) : Wr wB W.drew G bs := h.below_ (Below.refl _ _).drew
theorem Fr.drew (h : Fr wB W F p bs) : Fr wB W.drew F p bs := h.below_ (Below.refl _ _).drew
/-- Behind an append to the writer's row and a store into its one cell. -/
theorem Wr.put_ {w0 : World} (hb : Below wB.heap.size wB w0) (hG : wB.heap.size ≤ G) (hc : w0.heap[G]? = some (.cells #[v] 81 (0, 0))) (ho : w0.ownsRow wB.heap.size 5 1 v cs.length (nums .u8 cs))
    (hg : w0.grownBy w1 v.ownBlock) (hown : w1.ownsRow wB.heap.size 5 1 v' bs.length (nums .u8 bs)) : Wr wB (w1.setCell ⟨G, 0, none⟩ v') G bs := by
  have hbk : w1.heap[G]? = some (.cells #[v] 81 (0, 0)) := blk_grown hc hg (own_ne ho hc (by decide))
  refine ⟨?_, hG, v', ?_, ?_⟩
  · exact Below.setCell (pw_below_grown hb _ hb.size hg (fun k hk => own_base ho k hk)) hG _
  · exact (blk_set hbk 0 v').trans rfl
  · exact own_setCell hown (own_ne hown hbk (by decide)) _
theorem Fr.put_ {w0 : World} (hb : Below wB.heap.size wB w0) (hF : wB.heap.size ≤ F) (hc : w0.heap[F]? = some (.cells (frc p rb v) 278 (0, 0))) (ho : w0.ownsRow wB.heap.size 5 1 v cs.length (nums .u8 cs))
    (hg : w0.grownBy w1 v.ownBlock) (hown : w1.ownsRow wB.heap.size 5 1 v' bs.length (nums .u8 bs)) : Fr wB (w1.setCell ⟨F, 7, none⟩ v') F p bs := by
  have hbk : w1.heap[F]? = some (.cells (frc p rb v) 278 (0, 0)) := blk_grown hc hg (own_ne ho hc (by decide))
  refine ⟨?_, hF, rb, v', ?_, ?_⟩
  · exact Below.setCell (pw_below_grown hb _ hb.size hg (fun k hk => own_base ho k hk)) hF _
  · exact (blk_set hbk 7 v').trans rfl
  · exact own_setCell hown (own_ne hown hbk (by decide)) _
theorem own_form {base n : Nat} {e : TypeId} {size : Nat} {xs : List Value} (h : W.ownsRow base e size v n xs) : ∃ A m c, v = .slice A m c := by
  obtain ⟨A, c, h⟩ := own_slice h
  exact ⟨A, n, c, h⟩
theorem w_cell (h : W.heap[G]? = some (.cells #[v] 81 (0, 0))) : W.cell? ⟨G, 0, none⟩ = some v := (cell_of_row W G 0 _ _ _ h).trans rfl
theorem blk_froz {t : TypeId} {cells : Array Value} {i : Nat} (h : W.heap[G]? = some (.cells cells t (0, 0))) : W.frozen? ⟨G, i, none⟩ = false := by simp [World.frozen?, h]
theorem f_cell (h : W.heap[F]? = some (.cells (frc p rb v) 278 (0, 0))) (i : Nat) : W.cell? ⟨F, i, none⟩ = (frc p rb v)[i]? := cell_of_row W F i _ _ _ h
end
/-! ### append, whatever is appended -/
section
variable {P : Program} {ops : Array Oper} {rest : List Oper} {o : Oper} {a : Act} {Q : Exit → Act → World → Prop}
theorem append_types (t t2 ty e e2 : TypeId) (ht : P.underlying t = some (.slice e)) (h2 : P.underlying t2 = some (.slice e2)) (v y : Value) (W : World) :
    (Builtin.append_ #[t, t2] ty #[v, y]).run P W = (Builtin.append_ #[t, t] ty #[v, y]).run P W := by
  unfold Builtin.append_
  cases v <;> simp [run_underlying ht, run_underlying h2, Sem.run_bind]
/-- An append whose run is known to come to something, in a plain region. -/
theorem app_list {F : Value → World → Prop} {W : World} (hgd : o.guard = none) (s x : Operand) (t t2 : TypeId) (ho : o.op = .call { callee := .builtin .append, args := #[s, x], argTypes := #[t, t2] }) (v y : Value) (hs : a.eval s = v) (hx : a.eval x = y)
    (hr : ∃ v1 w1, (Builtin.append_ #[t, t2] o.type #[v, y]).run P W = .ok v1 w1 ∧ F v1 w1)
    (h : ∀ v1 w1, F v1 w1 → wpList P ops Q rest (a.put o.dst v1) w1) : wpList P ops Q (o :: rest) a W := by
  obtain ⟨v1, w1, hr, hF⟩ := hr
  refine wpList_plain hgd fun K hK => ?_
  unfold Oper.wp execOp
  simp only [ho, resolve, invoke, builtin, Sem.run_bind, Sem.run_pure, Result.andThen_ok, List.map_toArray, List.map_cons, List.map_nil, hs, hx, hr]
  exact hK _ _ (h v1 w1 hF)
/-- The same at a step of a region that draws its order. -/
theorem app_step {F : Value → World → Prop} {W : World} {K : Act → World → Prop} {E : Prop} (hgd : o.guard = none) (s x : Operand) (t t2 : TypeId) (ho : o.op = .call { callee := .builtin .append, args := #[s, x], argTypes := #[t, t2] }) (v y : Value) (hs : a.eval s = v) (hx : a.eval x = y)
    (hr : ∃ v1 w1, (Builtin.append_ #[t, t2] o.type #[v, y]).run P W = .ok v1 w1 ∧ F v1 w1)
    (h : ∀ v1 w1, F v1 w1 → K (a.put o.dst v1) w1) : if Region.wanted o (yielded ops a.tmps) = true then Oper.wp P o a W K Q else E := by
  obtain ⟨v1, w1, hr, hF⟩ := hr
  have hw : Region.wanted o (yielded ops a.tmps) = true := by simp [Region.wanted, hgd]
  rw [if_pos hw]
  unfold Oper.wp execOp
  simp only [ho, resolve, invoke, builtin, Sem.run_bind, Sem.run_pure, Result.andThen_ok, List.map_toArray, List.map_cons, List.map_nil, hs, hx, hr]
  exact h v1 w1 hF
/-- What an append of bytes leaves. -/
def Ap (W : World) (base : Nat) (v : Value) (bs : List Int) (v1 : Value) (w1 : World) : Prop := w1.ownsRow base 5 1 v1 bs.length (nums .u8 bs) ∧ W.grownBy w1 v.ownBlock
end
/-- append(v, xs...) of bytes that are read: nil and others. -/
theorem ap_row {W : World} {base : Nat} (t t2 ty e2 : TypeId) (ht : Tryz.prog.underlying t = some (.slice 5)) (h2 : Tryz.prog.underlying t2 = some (.slice e2)) (v : Value) (xs ys : List Int) (A : Option Addr) (m c : Nat)
    (HO : W.ownsRow base 5 1 v xs.length (nums .u8 xs)) (HR : ReadsInt W .u8 A m ys) (hbase : base ≤ W.heap.size) (hl : xs.length + m ≤ 1000000000) :
    ∃ v1 w1, (Builtin.append_ #[t, t2] ty #[v, .slice A m c]).run Tryz.prog W = .ok v1 w1 ∧ Ap W base v (xs ++ ys) v1 w1 := by
  rw [append_types t t2 ty 5 e2 ht h2]
  obtain ⟨i0, hi, hz0, hz1, hz2⟩ := info_parts info5
  have hm : ys.length = m := HR.1
  rcases A with _ | ad
  · have h0 : m = 0 := by
      rcases Nat.eq_zero_or_pos m with h0 | h0
      · exact h0
      · obtain ⟨ad, h, _⟩ := HR.2.2 h0
        cases h
    subst h0
    obtain rfl : ys = [] := List.eq_nil_of_length_eq_zero hm
    refine ⟨v, W, ?_, by simpa using HO, World.grownBy.refl W _⟩
    rcases HO.2 with ⟨rfl, hn⟩ | ⟨g, cap, cur, rfl, _, _, hnc, _⟩
    · simp [Builtin.append_, run_underlying ht, sizeOf, typeInfo, hi, Builtin.lenOf, Builtin.firstCells]
    · simp [Builtin.append_, run_underlying ht, sizeOf, typeInfo, hi, Builtin.lenOf, Builtin.firstCells, hnc, storeCells]
  · have hcells : ∀ j u, (nums .u8 ys)[j]? = some u → W.cell? (ad.add j) = some u := by
      intro j u hu
      have hj : j < ys.length := by
        rcases Nat.lt_or_ge j ys.length with h | h
        · exact h
        · simp [nums, List.getElem?_eq_none h] at hu
      obtain ⟨ad', h', hc⟩ := HR.2.2 (by omega)
      obtain rfl := Option.some.inj h'
      have := hc j (by omega)
      simp [nums, List.getElem?_eq_getElem hj] at hu
      subst hu
      rw [this]
      simp [List.getD_eq_getElem?_getD, List.getElem?_eq_getElem hj]
    obtain ⟨v1, w1, hr, h2, h3, _, h5⟩ := run_append_own_at (P := Tryz.prog) W base t ty 5 i0 (.int .u8 0) 1 1 ht hi hz0 hz1 hz2 rfl (by omega) v xs.length (nums .u8 xs) HO ad m c (nums .u8 ys) (by simp [nums, hm]) hcells
      (by intro u hu; simp only [nums, List.mem_map] at hu; obtain ⟨q, _, rfl⟩ := hu; rfl) (by simp only [maxLen]; omega) (by omega) hbase
    exact ⟨v1, w1, hr, by simpa [nums, hm] using h2, h3⟩
/-- append(v, x, y, ..): the bytes lie in a block of their own that was just made. -/
theorem ap_lit {W : World} {base : Nat} (t ty : TypeId) (ht : Tryz.prog.underlying t = some (.slice 5)) (v : Value) (xs ys : List Int) (B c : Nat) {n : Nat} {fr : Nat × Nat} {cells : Array Value}
    (HO : W.ownsRow base 5 1 v xs.length (nums .u8 xs)) (hB : W.heap[B]? = some (.cells cells 5 fr)) (hcs : cells = (nums .u8 ys).toArray) (hn : n = ys.length) (hbase : base ≤ W.heap.size) (hl : xs.length + ys.length ≤ 1000000000) :
    ∃ v1 w1, (Builtin.append_ #[t, t] ty #[v, .slice (some ⟨B, 0, none⟩) n c]).run Tryz.prog W = .ok v1 w1 ∧ Ap W base v (xs ++ ys) v1 w1 := by
  subst hcs hn
  refine ap_row t t ty 5 ht ht v xs ys (some ⟨B, 0, none⟩) _ c HO ⟨rfl, by omega, fun _ => ⟨_, rfl, fun j hj => ?_⟩⟩ hbase hl
  rw [add_plain, cell_of_row W B j _ _ _ hB]
  simp only [nums, List.getElem?_toArray, List.getElem?_map, List.getElem?_eq_getElem hj, Option.map_some, List.getD_eq_getElem?_getD, Option.getD_some]
/-- append(v, s...) of a string's bytes. -/
theorem ap_str {W : World} {base : Nat} (t u ty : TypeId) (ht : Tryz.prog.underlying t = some (.slice 5)) (hu : Tryz.prog.underlying u = some .string) (v : Value) (xs : List Int) (s : ByteArray)
    (HO : W.ownsRow base 5 1 v xs.length (nums .u8 xs)) (hbase : base ≤ W.heap.size) (hl : xs.length + s.size ≤ 1000000000) :
    ∃ v1 w1, (Builtin.append_ #[t, u] ty #[v, .string s]).run Tryz.prog W = .ok v1 w1 ∧ Ap W base v (xs ++ bytesOf s) v1 w1 := by
  obtain ⟨i0, hi, hz0, hz1, hz2⟩ := info_parts info5
  obtain ⟨v1, w1, hr, h2, h3, _⟩ := Lib.run_append_own_string W base t u ty 5 i0 ht hu hi hz0 hz1 hz2 v xs.length (nums .u8 xs) HO s (by simp only [maxLen]; omega) (by omega) hbase
  refine ⟨v1, w1, hr, ?_, h3⟩
  have hl2 : (xs ++ bytesOf s).length = xs.length + s.size := by rw [List.length_append, bytesOf_length]
  have hc : nums .u8 (bytesOf s) = Lib.strCells s := by
    clear hl HO hr h2 h3
    simp [nums, bytesOf, Lib.strCells]
  rw [hl2, nums_append, hc]
  exact h2
section
variable {P : Program} {ops : Array Oper} {Q : Exit → Act → World → Prop} {S : World → Prop} {ds : List Nat} {fuel : Nat} {l l' : Array Bool} {oi : Oper} {v : Value} {a a' : Act} {w : World}
/-- A region that draws: operation k yields nothing, a value in every world, a value where S holds. -/
theorem e_f {t : Tmp} (k : Nat) (h : wpAnyLast P .any ops Q S ds fuel l' a' w) (hi : ops[k]? = some oi := by rfl) (hN : oi.dst = some t := by rfl) (hl : l.setIfInBounds k true = l' := by (simp only [List.setIfInBounds_toArray, List.set_cons_zero, List.set_cons_succ]; rfl)) (hc : anyB .any ops l l' k = true := by kernel_rfl) (hQ : ∀ c a w, Q (.panic c) (a.put (some t) undef) w → Q (.panic c) a w := by exact fun _ _ _ h => h) (hw : Region.wanted oi (yielded ops a.tmps) = false := by rfl) (ha : a.put (some t) undef = a' := by (simp only [Act.put, List.setIfInBounds_toArray, List.set_cons_zero, List.set_cons_succ, i64_w, i32_w]; rfl)) : wpAnyLast P .any ops Q S ds (fuel + 1) l a w :=
  pure_ l' hi hN hc (hN ▸ hQ) (Or.inr ⟨hw, rfl⟩) ha h
theorem e_o {t : Tmp} (k : Nat) (h : wpAnyLast P .any ops Q S ds fuel l' a' w) (hi : ops[k]? = some oi := by rfl) (hN : oi.dst = some t := by rfl) (hl : l.setIfInBounds k true = l' := by (simp only [List.setIfInBounds_toArray, List.set_cons_zero, List.set_cons_succ]; rfl)) (hc : anyB .any ops l l' k = true := by kernel_rfl) (hw : Region.wanted oi (yielded ops a.tmps) = true := by rfl) (hy : ∀ w', (execOp a.eval oi).run P w' = .ok (.value v) w' := by (intro w'; go_simp; with_reducible rfl)) (hQ : ∀ c a w, Q (.panic c) (a.put (some t) v) w → Q (.panic c) a w := by exact fun _ _ _ h => h) (ha : a.put (some t) v = a' := by (simp only [Act.put, List.setIfInBounds_toArray, List.set_cons_zero, List.set_cons_succ, i64_w, i32_w]; rfl)) : wpAnyLast P .any ops Q S ds (fuel + 1) l a w :=
  pure_ l' hi hN hc (hN ▸ hQ) (Or.inl ⟨hw, hy⟩) ha h
theorem e_t {t : Tmp} (k : Nat) (hS : S w) (h : wpAnyLast P .any ops Q S ds fuel l' a' w) (hi : ops[k]? = some oi := by rfl) (hN : oi.dst = some t := by rfl) (hl : l.setIfInBounds k true = l' := by (simp only [List.setIfInBounds_toArray, List.set_cons_zero, List.set_cons_succ]; rfl)) (hc : takeB .any ops ds l l' k = true := by kernel_rfl) (hw : Region.wanted oi (yielded ops a.tmps) = true := by rfl) (hy : ∀ w', S w' → (execOp a.eval oi).run P w' = .ok (.value v) w' := by (first | rintro w' ⟨s0, s1, s2⟩ | rintro w' ⟨s0, s1⟩ | intro w' s0) <;> (go_simp; with_reducible rfl)) (hQ : ∀ c a w, Q (.panic c) (a.put (some t) v) w → Q (.panic c) a w := by exact fun _ _ _ h => h) (ha : a.put (some t) v = a' := by (simp only [Act.put, List.setIfInBounds_toArray, List.set_cons_zero, List.set_cons_succ, i64_w, i32_w]; rfl)) : wpAnyLast P .any ops Q S ds (fuel + 1) l a w :=
  take_ l' hi hN hc (hN ▸ hQ) (Or.inl ⟨hw, hy⟩) hS ha h
end
/-- Blocks that are neither rows of bytes nor writers stand. -/
def Kw (w w' : World) : Prop := ∀ (G : Nat) (cs : Array Value) (t : TypeId), t ≠ 5 → t ≠ 81 → w.heap[G]? = some (.cells cs t (0, 0)) → w'.heap[G]? = some (.cells cs t (0, 0))
theorem Kw.refl (w : World) : Kw w w := fun _ _ _ _ _ h => h
theorem Kw.trans {a b c : World} (h : Kw a b) (k : Kw b c) : Kw a c := fun G cs t h1 h2 h3 => k G cs t h1 h2 (h G cs t h1 h2 h3)
theorem Kw.of_below {w w' : World} (hb : Below w.heap.size w w') : Kw w w' := fun _ _ _ _ _ h => blk_below h hb
theorem Kw.put {w0 w0' w1 : World} {G base n : Nat} {v : Value} {xs : List Value} {cs : Array Value} (hst : ∀ (G : Nat) (b : Obj), w0.heap[G]? = some b → w0'.heap[G]? = some b) (ho : w0.ownsRow base 5 1 v n xs)
    (hg : w0'.grownBy w1 v.ownBlock) (hc : w1.heap[G]? = some (.cells cs 81 (0, 0))) (u : Value) : Kw w0 (w1.setCell ⟨G, 0, none⟩ u) := by
  intro K ds t h1 h2 h3
  have h4 := blk_grown (hst K _ h3) hg (own_ne ho h3 (Ne.symm h1))
  exact blk_far h4 (blk_ne h4 hc h2) u
set_option maxHeartbeats 1000000 in
theorem put_any (wB : World) (G : Nat) (bs : List Int) (n m : Int) (k : Nat) (w : World) (hm : m = (k : Nat)) (hk : k ≤ 8) (hl : bs.length + k ≤ 1000000000) (hW : Wr wB w G bs) :
    Calls Tryz.prog 24 #[.pointer (some ⟨G, 0, none⟩), .int .i64 n, .int .i64 m] w fun e w' => e = .returned (.tuple #[]) ∧ Wr wB w' G (bs ++ be k n) ∧ Kw w w' := by
  subst hm
  have HW := Lib.hid hW
  clear hW
  go_enter Tryz.func24, Tryz.ntmps24
  go_wp2
  go_loopw [6] (fun v6 W => ∃ (j : Nat) (cs : List Int), v6 = .int .i64 ((j : Int) - 1) ∧ j ≤ k ∧ Hid (cs ++ be j n = bs ++ be k n) ∧ Hid (Wr wB W G cs) ∧ Hid (Kw w W)) (fun v6 _ => (intOf v6 + 1).toNat)
  case atStart => exact ⟨k, bs, rfl, Nat.le_refl _, Lib.hid rfl, HW, Lib.hid (Kw.refl _)⟩
  case round =>
    obtain ⟨j, cs, rfl, hj, HE, HW1, HK1⟩ := hrel
    clear HW
    cases j with
    | zero =>
      go_wp2
      go_end0
      refine ⟨rfl, ?_⟩
      have h := HE.out
      simp only [be, List.append_nil] at h
      rw [← h]
      exact ⟨HW1.out, HK1.out⟩
    | succ j =>
      obtain ⟨hb, hG, v, hc, ho⟩ := HW1.out
      have hsz : wB.heap.size ≤ wr.heap.size := hb.size
      have hlen : cs.length + 1 ≤ bs.length + k := by
        have := congrArg List.length HE.out
        simp only [List.length_append, be_length] at this
        omega
      have hb0 := Lib.hid hb
      have hc' := Lib.hid hc
      clear hb hc
      have e : ((j + 1 : Nat) : Int) - 1 = (j : Int) := by omega
      rw [e]
      clear e
      have hc0 : wr.drew.cell? ⟨G, 0, none⟩ = some v := w_cell (blk_drew hc'.out)
      go_wp2
      have hw8 : wrap64 (8 * (j : Int)) = 8 * (j : Int) := by unfold wrap64; omega
      have hp : (0 : Int) ≤ 8 * (j : Int) := by omega
      have hq : 8 * (j : Int) ≤ 64 := by omega
      refine start_ (n := 13) (S := fun w' => w'.cell? ⟨G, 0, none⟩ = some v) (ds := [10, 12]) #[false, false, false, false, false, false, false, false, false, false, false, false, false] (by kernel_rfl) rfl rfl (hc0) (fun hHeld => ?_)
      refine e_o 0 ?_
      refine e_o 1 ?_
      refine e_o 2 ?_
      refine e_o 4 ?_
      refine e_o 5 ?_
      refine e_o 6 ?_
      refine e_o 7 ?_
      refine e_o 8 ?_
      refine e_t 3 hHeld ?_
      refine one_ (i := 9) (N := some 22) #[true, true, true, true, true, true, true, true, true, true, false, false, false] rfl rfl (by kernel_rfl) (by decide) (fun K hK => ?_)
      refine value_ (w1 := ?_) (v := ?_) (by rfl) rfl ?_ ?_
      rotate_left 2
      · go_simp
        constructor
        · rfl
        · rfl
      refine hK.out _ _ (w_cell (blk_drew (blk_alloc hc'.out _))) (fun hHeld => ?_)
      clear hK K
      refine norm_ (a' := ?_) ?_ ?_
      rotate_left
      · show Act.put _ (some 22) _ = _
        simp only [Act.put, List.setIfInBounds_toArray, List.set_cons_zero, List.set_cons_succ, i64_w, i32_w]
        rfl
      refine last_ (i := 10) (N := some 23) #[true, true, true, true, true, true, true, true, true, true, true, false, false] rfl rfl (by kernel_rfl) (by decide) (fun K hK => ?_)
      refine app_step (E := _) rfl (.tmp 16) (.tmp 22) 81 81 rfl v _ rfl rfl (ap_lit 81 _ Tryz.underlying81 v cs [IntKind.u8.wrap (n / 2 ^ (8 * (j : Int)).toNat)] wr.heap.size 1 ((ho.alloc _).drew) (blk_drew (heap_alloc_new _ _)) rfl rfl (by simp; omega) (by simp; omega)) ?_
      rintro v1 w1 ⟨hown, hgrow⟩
      have hbk1 : w1.heap[G]? = some (.cells #[v] 81 (0, 0)) := blk_grown (blk_drew (blk_alloc hc'.out _)) hgrow (own_ne ho hc'.out (by decide))
      have hc1 := w_cell hbk1
      have hf1 : w1.frozen? ⟨G, 0, none⟩ = false := blk_froz hbk1
      obtain ⟨A1, m1, c1, rfl⟩ := own_form hown
      refine hK.out _ _ ?_
      clear hK K
      refine norm_ (a' := ?_) ?_ ?_
      rotate_left
      · show Act.put _ (some 23) _ = _
        simp only [Act.put, List.setIfInBounds_toArray, List.set_cons_zero, List.set_cons_succ, i64_w, i32_w]
        rfl
      refine e_o 11 ?_
      refine last_ (i := 12) (N := none) #[true, true, true, true, true, true, true, true, true, true, true, true, true] rfl rfl (by kernel_rfl) (by decide) (fun K hK => ?_)
      refine skip_ (w1 := ?_) (by rfl) rfl ?_ ?_
      rotate_left
      · go_simp
        rfl
      refine hK.out _ _ ?_
      clear hK K
      refine done_ (by kernel_rfl) ?_
      clear hw8 hp hq hc0 hc1 hf1
      go_wp2
      go_roundw
      case rel =>
        refine ⟨j, cs ++ [n / 256 ^ j % 256], rfl, by omega, Lib.hid ?_, Lib.hid ?_, Lib.hid (HK1.out.trans (Kw.put (fun _ _ h => blk_drew (blk_alloc h _)) ho hgrow hbk1 _))⟩
        · have h := HE.out
          simp only [be] at h
          rw [List.append_assoc]
          exact h
        · rw [byte_of] at hown
          exact Wr.put_ (below_drew (hb0.out.alloc hsz _)) hG (blk_drew (blk_alloc hc'.out _)) ((ho.alloc _).drew) hgrow hown
      case measure => simp [intOf]
set_option maxHeartbeats 400000 in
theorem bytes_any (wB : World) (G : Nat) (bs l : List Int) (A : Option Addr) (m c : Nat) (w : World) (hm : m = l.length) (hl : bs.length + l.length ≤ 1000000000) (hW : Wr wB w G bs) (hr : ReadsInt w .u8 A m l) :
    Calls Tryz.prog 52 #[.pointer (some ⟨G, 0, none⟩), .slice A m c] w fun e w' => e = .returned (.tuple #[]) ∧ Wr wB w' G (bs ++ l) ∧ Kw w w' := by
  obtain ⟨hb, hG, v, hc, ho⟩ := hW
  have hb0 := Lib.hid hb
  have hr0 := Lib.hid hr
  have hm0 := Lib.hid hm
  have hc' := Lib.hid hc
  have hsz : wB.heap.size ≤ w.heap.size := hb.size
  have hc0 := w_cell hc
  clear hb hr hc hm
  go_enter Tryz.func52, Tryz.ntmps52
  go_wp2_with (at_builtin; refine app_list rfl (.tmp 7) (.tmp 8) 81 23 rfl v _ rfl rfl (ap_row 81 23 _ 5 Tryz.underlying81 Tryz.underlying23 v bs l A m c ho hr0.out hsz (by rw [hm0.out]; exact hl)) ?_; rintro v1 w1 ⟨hown, hgrow⟩; have hbk1 := Lib.hid (blk_grown hc'.out hgrow (own_ne ho hc'.out (by decide))); have hc1 := w_cell hbk1.out; have hf1 := blk_froz (i := 0) hbk1.out; obtain ⟨A1, m1, c1, rfl⟩ := own_form hown)
  go_end0
  exact ⟨rfl, Wr.put_ hb0.out hG hc'.out ho hgrow hown, Kw.put (fun _ _ h => h) ho hgrow hbk1.out _⟩
set_option maxHeartbeats 400000 in
theorem text_any (wB : World) (G : Nat) (bs : List Int) (s : ByteArray) (w : World) (hl : bs.length + 2 + s.size ≤ 1000000000) (hW : Wr wB w G bs) :
    Calls Tryz.prog 25 #[.pointer (some ⟨G, 0, none⟩), .string s] w fun e w' => e = .returned (.tuple #[]) ∧ Wr wB w' G (bs ++ (be 2 s.size ++ bytesOf s)) ∧ Kw w w' := by
  have kb := fun W => print_bytes (P := Tryz.prog) 9 23 5 Tryz.underlying9 Tryz.underlying23 Tryz.underlying5 s W
  have hs : (s.size : Int) ≤ 1000000000 := by omega
  go_enter Tryz.func25, Tryz.ntmps25
  go_wp2_with fail
  refine (put_any wB G bs _ _ 2 w rfl (by omega) (by omega) hW).mono ?_
  rintro e w1 ⟨rfl, hW1, hK1⟩
  go_wp2_with fail
  refine (bytes_any wB G (bs ++ be 2 s.size) (bytesOf s) _ _ _ _ (bytesOf_length s).symm ?_ ?_ ?_).mono ?_
  · simp only [List.length_append, be_length, bytesOf_length]; omega
  · exact hW1.below_ (bytes_below (Below.refl _ _) (Nat.le_refl _) 5 s)
  · exact bytes_reads w1 5 s (by omega)
  · rintro e w2 ⟨rfl, hW2, hK2⟩
    go_wp2_with fail
    go_end0
    exact ⟨rfl, by rw [← List.append_assoc]; exact hW2, hK1.trans ((Kw.of_below (bytes_below (Below.refl _ _) (Nat.le_refl _) 5 s)).trans hK2)⟩
set_option maxHeartbeats 400000 in
theorem long_any (wB : World) (G : Nat) (bs : List Int) (s : ByteArray) (w : World) (hl : bs.length + 4 + s.size ≤ 1000000000) (hW : Wr wB w G bs) :
    Calls Tryz.prog 26 #[.pointer (some ⟨G, 0, none⟩), .string s] w fun e w' => e = .returned (.tuple #[]) ∧ Wr wB w' G (bs ++ (be 4 s.size ++ bytesOf s)) ∧ Kw w w' := by
  have kb := fun W => print_bytes (P := Tryz.prog) 9 23 5 Tryz.underlying9 Tryz.underlying23 Tryz.underlying5 s W
  have hs : (s.size : Int) ≤ 1000000000 := by omega
  go_enter Tryz.func26, Tryz.ntmps26
  go_wp2_with fail
  refine (put_any wB G bs _ _ 4 w rfl (by omega) (by omega) hW).mono ?_
  rintro e w1 ⟨rfl, hW1, hK1⟩
  go_wp2_with fail
  refine (bytes_any wB G (bs ++ be 4 s.size) (bytesOf s) _ _ _ _ (bytesOf_length s).symm ?_ ?_ ?_).mono ?_
  · simp only [List.length_append, be_length, bytesOf_length]; omega
  · exact hW1.below_ (bytes_below (Below.refl _ _) (Nat.le_refl _) 5 s)
  · exact bytes_reads w1 5 s (by omega)
  · rintro e w2 ⟨rfl, hW2, hK2⟩
    go_wp2_with fail
    go_end0
    exact ⟨rfl, by rw [← List.append_assoc]; exact hW2, hK1.trans ((Kw.of_below (bytes_below (Below.refl _ _) (Nat.le_refl _) 5 s)).trans hK2)⟩
set_option maxHeartbeats 400000 in
theorem short_any (wB : World) (G : Nat) (bs l : List Int) (A : Option Addr) (m c : Nat) (w : World) (hm : m = l.length) (hl : bs.length + 2 + l.length ≤ 1000000000) (hW : Wr wB w G bs) (hr : ReadsInt wB .u8 A m l) :
    Calls Tryz.prog 28 #[.pointer (some ⟨G, 0, none⟩), .slice A m c] w fun e w' => e = .returned (.tuple #[]) ∧ Wr wB w' G (bs ++ (be 2 l.length ++ l)) ∧ Kw w w' := by
  subst hm
  have hr0 := Lib.hid hr
  clear hr
  go_enter Tryz.func28, Tryz.ntmps28
  go_wp2_with fail
  refine (put_any wB G bs _ _ 2 w rfl (by omega) (by omega) hW).mono ?_
  rintro e w1 ⟨rfl, hW1, hK1⟩
  go_wp2_with fail
  refine (bytes_any wB G (bs ++ be 2 l.length) l A _ c _ rfl ?_ hW1 (hr0.out.below hW1.1)).mono ?_
  · simp only [List.length_append, be_length]; omega
  · rintro e w2 ⟨rfl, hW2, hK2⟩
    go_wp2_with fail
    go_end0
    exact ⟨rfl, by rw [← List.append_assoc]; exact hW2, hK1.trans hK2⟩
set_option maxHeartbeats 400000 in
theorem block_any (wB : World) (G : Nat) (bs l : List Int) (A : Option Addr) (m c : Nat) (w : World) (hm : m = l.length) (hl : bs.length + 4 + l.length ≤ 1000000000) (hW : Wr wB w G bs) (hr : ReadsInt wB .u8 A m l) :
    Calls Tryz.prog 30 #[.pointer (some ⟨G, 0, none⟩), .slice A m c] w fun e w' => e = .returned (.tuple #[]) ∧ Wr wB w' G (bs ++ (be 4 l.length ++ l)) ∧ Kw w w' := by
  subst hm
  have hr0 := Lib.hid hr
  clear hr
  go_enter Tryz.func30, Tryz.ntmps30
  go_wp2_with fail
  refine (put_any wB G bs _ _ 4 w rfl (by omega) (by omega) hW).mono ?_
  rintro e w1 ⟨rfl, hW1, hK1⟩
  go_wp2_with fail
  refine (bytes_any wB G (bs ++ be 4 l.length) l A _ c _ rfl ?_ hW1 (hr0.out.below hW1.1)).mono ?_
  · simp only [List.length_append, be_length]; omega
  · rintro e w2 ⟨rfl, hW2, hK2⟩
    go_wp2_with fail
    go_end0
    exact ⟨rfl, by rw [← List.append_assoc]; exact hW2, hK1.trans hK2⟩
theorem be_1 (n : Int) : be 1 n = [n % 256] := by simp [be]
theorem be_2 (n : Int) : be 2 n = [n / 256 % 256, n % 256] := by simp [be]
theorem be_4 (n : Int) : be 4 n = [n / 16777216 % 256, n / 65536 % 256, n / 256 % 256, n % 256] := by simp [be]
theorem be_8 (n : Int) : be 8 n = [n / 72057594037927936 % 256, n / 281474976710656 % 256, n / 1099511627776 % 256, n / 4294967296 % 256, n / 16777216 % 256, n / 65536 % 256, n / 256 % 256, n % 256] := by simp [be]
set_option maxHeartbeats 1000000 in
theorem appendShort_any (base : Nat) (v : Value) (bs : List Int) (n : Int) (w : World) (hl : bs.length + 2 ≤ 1000000000) (hb : base ≤ w.heap.size) (ho : w.ownsRow base 5 1 v bs.length (nums .u8 bs)) :
    Calls Tryz.prog 285 #[v, .int .u16 n] w fun e w' => ∃ v1, e = .returned v1 ∧ Ap w base v (bs ++ be 2 n) v1 w' := by
  go_enter Tryz.func285, Tryz.ntmps285
  go_wp2_with (at_builtin; refine app_list rfl (.tmp 5) (.tmp 11) 23 23 rfl v _ rfl rfl (ap_lit 23 _ Tryz.underlying23 v bs (be 2 n) w.heap.size 2 (ho.alloc _) (heap_alloc_new _ _) (by rw [be_2]; rfl) (be_length _ _).symm (by simp; omega) (by rw [be_length]; omega)) ?_; rintro v1 w1 ⟨hown, hgrow⟩)
  go_ret
  exact ⟨v1, rfl, hown, World.grownBy.trans (World.grownBy_alloc w _ _) hgrow⟩
set_option maxHeartbeats 1000000 in
theorem appendInt_any (base : Nat) (v : Value) (bs : List Int) (n : Int) (w : World) (hl : bs.length + 4 ≤ 1000000000) (hb : base ≤ w.heap.size) (ho : w.ownsRow base 5 1 v bs.length (nums .u8 bs)) :
    Calls Tryz.prog 112 #[v, .int .i32 n] w fun e w' => ∃ v1, e = .returned v1 ∧ Ap w base v (bs ++ be 4 n) v1 w' := by
  go_enter Tryz.func112, Tryz.ntmps112
  go_wp2_with (at_builtin; refine app_list rfl (.tmp 5) (.tmp 17) 23 23 rfl v _ rfl rfl (ap_lit 23 _ Tryz.underlying23 v bs (be 4 n) w.heap.size 4 (ho.alloc _) (heap_alloc_new _ _) (by rw [be_4]; rfl) (be_length _ _).symm (by simp; omega) (by rw [be_length]; omega)) ?_; rintro v1 w1 ⟨hown, hgrow⟩)
  go_ret
  exact ⟨v1, rfl, hown, World.grownBy.trans (World.grownBy_alloc w _ _) hgrow⟩
set_option maxHeartbeats 1000000 in
theorem appendLong_any (base : Nat) (v : Value) (bs : List Int) (n : Int) (w : World) (hl : bs.length + 8 ≤ 1000000000) (hb : base ≤ w.heap.size) (ho : w.ownsRow base 5 1 v bs.length (nums .u8 bs)) :
    Calls Tryz.prog 322 #[v, .int .i64 n] w fun e w' => ∃ v1, e = .returned v1 ∧ Ap w base v (bs ++ be 8 n) v1 w' := by
  go_enter Tryz.func322, Tryz.ntmps322
  go_wp2_with (at_builtin; refine app_list rfl (.tmp 5) (.tmp 29) 23 23 rfl v _ rfl rfl (ap_lit 23 _ Tryz.underlying23 v bs (be 8 n) w.heap.size 8 (ho.alloc _) (heap_alloc_new _ _) (by rw [be_8]; rfl) (be_length _ _).symm (by simp; omega) (by rw [be_length]; omega)) ?_; rintro v1 w1 ⟨hown, hgrow⟩)
  go_ret
  exact ⟨v1, rfl, hown, World.grownBy.trans (World.grownBy_alloc w _ _) hgrow⟩
set_option maxHeartbeats 400000 in
theorem writeShort_any (wB : World) (F : Nat) (p : Int) (bs : List Int) (n : Int) (w : World) (hl : bs.length + 2 ≤ 1000000000) (hW : Fr wB w F p bs) :
    Calls Tryz.prog 281 #[.pointer (some ⟨F, 0, none⟩), .int .u16 n] w fun e w' => e = .returned (.tuple #[]) ∧ Fr wB w' F p (bs ++ be 2 n) := by
  obtain ⟨hb, hF, rb, v, hc, ho⟩ := hW
  have hb0 := Lib.hid hb
  have hc' := Lib.hid hc
  have hsz : wB.heap.size ≤ w.heap.size := hb.size
  have hc0 : w.cell? ⟨F, 7, none⟩ = some v := f_cell hc 7
  clear hb hc
  go_enter Tryz.func281, Tryz.ntmps281
  go_wp2_with (go_at_call 285; refine (appendShort_any wB.heap.size v bs n _ hl hsz ho).mono ?_; rintro e w1 ⟨v1, rfl, hown, hgrow⟩; have hbk1 := Lib.hid (blk_grown (hc'.out) hgrow (own_ne ho hc'.out (by decide))); have hc1 : w1.cell? ⟨F, 7, none⟩ = some v := f_cell hbk1.out 7; have hf1 := blk_froz (i := 7) hbk1.out; obtain ⟨A1, m1, c1, rfl⟩ := own_form hown)
  go_end0
  exact ⟨rfl, Fr.put_ hb0.out hF hc'.out ho hgrow hown⟩
set_option maxHeartbeats 400000 in
theorem writeInt_any (wB : World) (F : Nat) (p : Int) (bs : List Int) (n : Int) (w : World) (hl : bs.length + 4 ≤ 1000000000) (hW : Fr wB w F p bs) :
    Calls Tryz.prog 313 #[.pointer (some ⟨F, 0, none⟩), .int .i32 n] w fun e w' => e = .returned (.tuple #[]) ∧ Fr wB w' F p (bs ++ be 4 n) := by
  obtain ⟨hb, hF, rb, v, hc, ho⟩ := hW
  have hb0 := Lib.hid hb
  have hc' := Lib.hid hc
  have hsz : wB.heap.size ≤ w.heap.size := hb.size
  have hc0 : w.cell? ⟨F, 7, none⟩ = some v := f_cell hc 7
  clear hb hc
  go_enter Tryz.func313, Tryz.ntmps313
  go_wp2_with (go_at_call 112; refine (appendInt_any wB.heap.size v bs n _ hl hsz ho).mono ?_; rintro e w1 ⟨v1, rfl, hown, hgrow⟩; have hbk1 := Lib.hid (blk_grown (hc'.out) hgrow (own_ne ho hc'.out (by decide))); have hc1 : w1.cell? ⟨F, 7, none⟩ = some v := f_cell hbk1.out 7; have hf1 := blk_froz (i := 7) hbk1.out; obtain ⟨A1, m1, c1, rfl⟩ := own_form hown)
  go_end0
  exact ⟨rfl, Fr.put_ hb0.out hF hc'.out ho hgrow hown⟩
set_option maxHeartbeats 400000 in
theorem writeLong_any (wB : World) (F : Nat) (p : Int) (bs : List Int) (n : Int) (w : World) (hl : bs.length + 8 ≤ 1000000000) (hW : Fr wB w F p bs) :
    Calls Tryz.prog 319 #[.pointer (some ⟨F, 0, none⟩), .int .i64 n] w fun e w' => e = .returned (.tuple #[]) ∧ Fr wB w' F p (bs ++ be 8 n) := by
  obtain ⟨hb, hF, rb, v, hc, ho⟩ := hW
  have hb0 := Lib.hid hb
  have hc' := Lib.hid hc
  have hsz : wB.heap.size ≤ w.heap.size := hb.size
  have hc0 : w.cell? ⟨F, 7, none⟩ = some v := f_cell hc 7
  clear hb hc
  go_enter Tryz.func319, Tryz.ntmps319
  go_wp2_with (go_at_call 322; refine (appendLong_any wB.heap.size v bs n _ hl hsz ho).mono ?_; rintro e w1 ⟨v1, rfl, hown, hgrow⟩; have hbk1 := Lib.hid (blk_grown (hc'.out) hgrow (own_ne ho hc'.out (by decide))); have hc1 : w1.cell? ⟨F, 7, none⟩ = some v := f_cell hbk1.out 7; have hf1 := blk_froz (i := 7) hbk1.out; obtain ⟨A1, m1, c1, rfl⟩ := own_form hown)
  go_end0
  exact ⟨rfl, Fr.put_ hb0.out hF hc'.out ho hgrow hown⟩
set_option maxHeartbeats 400000 in
theorem writeByte_any (wB : World) (F : Nat) (p : Int) (bs : List Int) (n : Int) (w : World) (hl : bs.length + 1 ≤ 1000000000) (hW : Fr wB w F p bs) :
    Calls Tryz.prog 316 #[.pointer (some ⟨F, 0, none⟩), .int .u8 n] w fun e w' => e = .returned (.tuple #[]) ∧ Fr wB w' F p (bs ++ [n]) := by
  obtain ⟨hb, hF, rb, v, hc, ho⟩ := hW
  have hb0 := Lib.hid hb
  have hc' := Lib.hid hc
  have hsz : wB.heap.size ≤ w.heap.size := hb.size
  have hc0 : w.cell? ⟨F, 7, none⟩ = some v := f_cell hc 7
  clear hb hc
  go_enter Tryz.func316, Tryz.ntmps316
  go_wp2_with (at_builtin; refine app_list rfl (.tmp 8) (.tmp 10) 23 23 rfl v _ rfl rfl (ap_lit 23 _ Tryz.underlying23 v bs [n] w.heap.size 1 (ho.alloc _) (heap_alloc_new _ _) rfl rfl (by simp; omega) (by simp; omega)) ?_; rintro v1 w1 ⟨hown, hgrow⟩; have hbk1 := Lib.hid (blk_grown (blk_alloc hc'.out _) hgrow (own_ne ho hc'.out (by decide))); have hc1 : w1.cell? ⟨F, 7, none⟩ = some v := f_cell hbk1.out 7; have hf1 := blk_froz (i := 7) hbk1.out; obtain ⟨A1, m1, c1, rfl⟩ := own_form hown)
  go_end0
  exact ⟨rfl, Fr.put_ (hb0.out.alloc hsz _) hF (blk_alloc hc'.out _) (ho.alloc _) hgrow hown⟩
set_option maxHeartbeats 400000 in
theorem writeUnset_any (wB : World) (F : Nat) (p : Int) (bs : List Int) (w : World) (hl : bs.length + 4 ≤ 1000000000) (hW : Fr wB w F p bs) :
    Calls Tryz.prog 317 #[.pointer (some ⟨F, 0, none⟩)] w fun e w' => e = .returned (.tuple #[]) ∧ Fr wB w' F p (bs ++ be 4 (-2)) := by
  go_enter Tryz.func317, Tryz.ntmps317
  go_wp2_with (go_at_call 313; refine (writeInt_any wB F p bs (-2) _ hl hW).mono ?_; rintro e w1 ⟨rfl, hW1⟩)
  go_end0
  exact ⟨rfl, hW1⟩
set_option maxHeartbeats 400000 in
theorem writeConsistency_any (wB : World) (F : Nat) (p : Int) (bs : List Int) (n : Int) (w : World) (hl : bs.length + 2 ≤ 1000000000) (hW : Fr wB w F p bs) :
    Calls Tryz.prog 314 #[.pointer (some ⟨F, 0, none⟩), .int .u16 n] w fun e w' => e = .returned (.tuple #[]) ∧ Fr wB w' F p (bs ++ be 2 n) := by
  go_enter Tryz.func314, Tryz.ntmps314
  go_wp2_with (go_at_call 281; refine (writeShort_any wB F p bs n _ hl hW).mono ?_; rintro e w1 ⟨rfl, hW1⟩)
  go_end0
  exact ⟨rfl, hW1⟩
set_option maxHeartbeats 400000 in
theorem writeString_any (wB : World) (F : Nat) (p : Int) (bs : List Int) (s : ByteArray) (w : World) (hs : s.size ≤ 60000) (hl : bs.length + 2 + s.size ≤ 1000000000) (hW : Fr wB w F p bs) :
    Calls Tryz.prog 283 #[.pointer (some ⟨F, 0, none⟩), .string s] w fun e w' => e = .returned (.tuple #[]) ∧ Fr wB w' F p (bs ++ (be 2 s.size ++ bytesOf s)) := by
  go_enter Tryz.func283, Tryz.ntmps283
  go_wp2_with fail
  refine (writeShort_any wB F p bs _ w (by omega) hW).mono ?_
  rintro e w1 ⟨rfl, hW1⟩
  obtain ⟨hb, hF, rb, v, hc, ho⟩ := hW1
  have hb0 := Lib.hid hb
  have hc' := Lib.hid hc
  have hsz : wB.heap.size ≤ w1.heap.size := hb.size
  have hc0 : w1.cell? ⟨F, 7, none⟩ = some v := f_cell hc 7
  clear hb hc
  go_wp2_with (at_builtin; refine app_list rfl (.tmp 13) (.tmp 14) 23 9 rfl v _ rfl rfl (ap_str 23 9 _ Tryz.underlying23 Tryz.underlying9 v (bs ++ be 2 s.size) s ho hsz (by rw [List.length_append, be_length]; omega)) ?_; rintro v1 w2 ⟨hown, hgrow⟩; have hbk1 := Lib.hid (blk_grown (hc'.out) hgrow (own_ne ho hc'.out (by decide))); have hc1 : w2.cell? ⟨F, 7, none⟩ = some v := f_cell hbk1.out 7; have hf1 := blk_froz (i := 7) hbk1.out; obtain ⟨A1, m1, c1, rfl⟩ := own_form hown)
  go_end0
  exact ⟨rfl, by rw [← List.append_assoc]; exact Fr.put_ hb0.out hF hc'.out ho hgrow hown⟩
set_option maxHeartbeats 400000 in
theorem writeLongString_any (wB : World) (F : Nat) (p : Int) (bs : List Int) (s : ByteArray) (w : World) (hs : s.size ≤ 60000) (hl : bs.length + 4 + s.size ≤ 1000000000) (hW : Fr wB w F p bs) :
    Calls Tryz.prog 310 #[.pointer (some ⟨F, 0, none⟩), .string s] w fun e w' => e = .returned (.tuple #[]) ∧ Fr wB w' F p (bs ++ (be 4 s.size ++ bytesOf s)) := by
  go_enter Tryz.func310, Tryz.ntmps310
  go_wp2_with fail
  refine (writeInt_any wB F p bs _ w (by omega) hW).mono ?_
  rintro e w1 ⟨rfl, hW1⟩
  obtain ⟨hb, hF, rb, v, hc, ho⟩ := hW1
  have hb0 := Lib.hid hb
  have hc' := Lib.hid hc
  have hsz : wB.heap.size ≤ w1.heap.size := hb.size
  have hc0 : w1.cell? ⟨F, 7, none⟩ = some v := f_cell hc 7
  clear hb hc
  go_wp2_with (at_builtin; refine app_list rfl (.tmp 13) (.tmp 14) 23 9 rfl v _ rfl rfl (ap_str 23 9 _ Tryz.underlying23 Tryz.underlying9 v (bs ++ be 4 s.size) s ho hsz (by rw [List.length_append, be_length]; omega)) ?_; rintro v1 w2 ⟨hown, hgrow⟩; have hbk1 := Lib.hid (blk_grown (hc'.out) hgrow (own_ne ho hc'.out (by decide))); have hc1 : w2.cell? ⟨F, 7, none⟩ = some v := f_cell hbk1.out 7; have hf1 := blk_froz (i := 7) hbk1.out; obtain ⟨A1, m1, c1, rfl⟩ := own_form hown)
  go_end0
  exact ⟨rfl, by rw [← List.append_assoc]; exact Fr.put_ hb0.out hF hc'.out ho hgrow hown⟩
set_option maxHeartbeats 400000 in
theorem writeShortBytes_any (wB : World) (F : Nat) (p : Int) (bs l : List Int) (A : Option Addr) (m c : Nat) (w : World) (hm : m = l.length) (hs : l.length ≤ 60000) (hl : bs.length + 2 + l.length ≤ 1000000000) (hW : Fr wB w F p bs) (hr : ReadsInt wB .u8 A m l) :
    Calls Tryz.prog 326 #[.pointer (some ⟨F, 0, none⟩), .slice A m c] w fun e w' => e = .returned (.tuple #[]) ∧ Fr wB w' F p (bs ++ (be 2 l.length ++ l)) := by
  subst hm
  have hr0 := Lib.hid hr
  clear hr
  go_enter Tryz.func326, Tryz.ntmps326
  go_wp2_with fail
  refine (writeShort_any wB F p bs _ w (by omega) hW).mono ?_
  rintro e w1 ⟨rfl, hW1⟩
  obtain ⟨hb, hF, rb, v, hc, ho⟩ := hW1
  have hb0 := Lib.hid hb
  have hc' := Lib.hid hc
  have hsz : wB.heap.size ≤ w1.heap.size := hb.size
  have hc0 : w1.cell? ⟨F, 7, none⟩ = some v := f_cell hc 7
  clear hb hc
  go_wp2_with (at_builtin; refine app_list rfl (.tmp 13) (.tmp 14) 23 23 rfl v _ rfl rfl (ap_row 23 23 _ 5 Tryz.underlying23 Tryz.underlying23 v (bs ++ be 2 l.length) l A _ c ho (hr0.out.below hb0.out) hsz (by rw [List.length_append, be_length]; omega)) ?_; rintro v1 w2 ⟨hown, hgrow⟩; have hbk1 := Lib.hid (blk_grown (hc'.out) hgrow (own_ne ho hc'.out (by decide))); have hc1 : w2.cell? ⟨F, 7, none⟩ = some v := f_cell hbk1.out 7; have hf1 := blk_froz (i := 7) hbk1.out; obtain ⟨A1, m1, c1, rfl⟩ := own_form hown)
  go_end0
  exact ⟨rfl, by rw [← List.append_assoc]; exact Fr.put_ hb0.out hF hc'.out ho hgrow hown⟩
set_option maxHeartbeats 400000 in
theorem writeBytes_nil (wB : World) (F : Nat) (p : Int) (bs : List Int) (w : World) (hl : bs.length + 4 ≤ 1000000000) (hW : Fr wB w F p bs) :
    Calls Tryz.prog 318 #[.pointer (some ⟨F, 0, none⟩), .slice none 0 0] w fun e w' => e = .returned (.tuple #[]) ∧ Fr wB w' F p (bs ++ be 4 (-1)) := by
  have hn := fun W => Lib.run_eql_slice_nil (P := Tryz.prog) W 23 5 none 0 0 0 0 Tryz.underlying23
  go_enter Tryz.func318, Tryz.ntmps318
  go_wp2_with (go_at_call 313; refine (writeInt_any wB F p bs (-1) _ hl hW).mono ?_; rintro e w1 ⟨rfl, hW1⟩)
  go_end0
  exact ⟨rfl, hW1⟩
set_option maxHeartbeats 400000 in
theorem writeBytes_some (wB : World) (F : Nat) (p : Int) (bs l : List Int) (ad : Addr) (m c : Nat) (w : World) (hm : m = l.length) (hs : l.length ≤ 60000) (hl : bs.length + 4 + l.length ≤ 1000000000) (hW : Fr wB w F p bs) (hr : ReadsInt wB .u8 (some ad) m l) :
    Calls Tryz.prog 318 #[.pointer (some ⟨F, 0, none⟩), .slice (some ad) m c] w fun e w' => e = .returned (.tuple #[]) ∧ Fr wB w' F p (bs ++ (be 4 l.length ++ l)) := by
  subst hm
  have hr0 := Lib.hid hr
  clear hr
  have hn := fun W => Lib.run_eql_slice_nil (P := Tryz.prog) W 23 5 (some ad) l.length c 0 0 Tryz.underlying23
  go_enter Tryz.func318, Tryz.ntmps318
  go_wp2_with fail
  refine (writeInt_any wB F p bs _ w (by omega) hW).mono ?_
  rintro e w1 ⟨rfl, hW1⟩
  clear hn
  obtain ⟨hb, hF, rb, v, hc, ho⟩ := hW1
  have hb0 := Lib.hid hb
  have hc' := Lib.hid hc
  have hsz : wB.heap.size ≤ w1.heap.size := hb.size
  have hc0 : w1.cell? ⟨F, 7, none⟩ = some v := f_cell hc 7
  clear hb hc
  go_wp2_with (at_builtin; refine app_list rfl (.tmp 17) (.tmp 18) 23 23 rfl v _ rfl rfl (ap_row 23 23 _ 5 Tryz.underlying23 Tryz.underlying23 v (bs ++ be 4 l.length) l (some ad) _ c ho (hr0.out.below hb0.out) hsz (by rw [List.length_append, be_length]; omega)) ?_; rintro v1 w2 ⟨hown, hgrow⟩; have hbk1 := Lib.hid (blk_grown (hc'.out) hgrow (own_ne ho hc'.out (by decide))); have hc1 : w2.cell? ⟨F, 7, none⟩ = some v := f_cell hbk1.out 7; have hf1 := blk_froz (i := 7) hbk1.out; obtain ⟨A1, m1, c1, rfl⟩ := own_form hown)
  go_end0
  exact ⟨rfl, by rw [← List.append_assoc]; exact Fr.put_ hb0.out hF hc'.out ho hgrow hown⟩
end Go.Proofs.YtammjbmfiakbnaaGreatDoor
