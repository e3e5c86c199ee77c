import Derived.Test.Qxb6608829aFit
import Derived.Test.Qxb6608829aLaw4
import Derived.Deep.RegionHeld3
import Derived.StillTailTactics
namespace Go.Proofs.Qxb6608829a
open Go.RowKit
set_option linter.unusedVariables false
set_option linter.unusedSimpArgs false

def agL (xs : List Int) : List Value := xs.map (Value.int .u8)
theorem agL_length (xs : List Int) : (agL xs).length = xs.length := by simp [agL]
theorem agL_get (xs : List Int) : (agL xs).toArray = ag xs := rfl

/-! ### a whole [20]byte, read in the middle of a block -/
theorem run_loadM (ty : TypeId) (hty : ty = 22 ∨ ty = 24) (w : World) (b o : Nat) (xs : List Int) (hl : xs.length = 20) (hc : w.rangeAt b o (agL xs)) :
    (Instr.loadAt ty (.pointer (some ⟨b, o, none⟩))).run Try.prog w = .ok (.agg (ag xs)) w := by
  rcases hty with rfl | rfl
  · exact run_loadAt_mid w b o 22 (agL xs) _ hc Try.underlying22 rfl (by rw [Try.size22, agL_length, hl])
  · exact run_loadAt_mid w b o 24 (agL xs) _ hc Try.underlying24 rfl (by rw [Try.size24, agL_length, hl])
theorem exec_loadM {a : Act} {op : Oper} (ty : TypeId) (hty : ty = 22 ∨ ty = 24) (x : Operand) (ho : op.op = .load ty x) (w : World) (b o : Nat) (hx : a.eval x = .pointer (some ⟨b, o, none⟩)) (xs : List Int) (hl : xs.length = 20) (hc : w.rangeAt b o (agL xs)) :
    (execOp a.eval op).run Try.prog w = .ok (.value (.agg (ag xs))) w := by
  unfold execOp
  simp only [ho, hx, Sem.run_bind, run_loadM ty hty w b o xs hl hc, Sem.run_pure, Result.andThen_ok]
theorem wpl_loadM {ops : Array Oper} {rest : List Oper} {op : Oper} {a : Act} {w : World} {Q : Exit → Act → World → Prop} (ty : TypeId) (hty : ty = 22 ∨ ty = 24) (hw : Region.wanted op (yielded ops a.tmps) = true) (x : Operand) (ho : op.op = .load ty x)
    (b o : Nat) (hx : a.eval x = .pointer (some ⟨b, o, none⟩)) (xs : List Int) (hl : xs.length = 20) (hc : w.rangeAt b o (agL xs))
    (h : wpList Try.prog ops Q rest (a.put op.dst (.agg (ag xs))) w) : wpList Try.prog ops Q (op :: rest) a w :=
  BigFrame.wpList_want hw fun K hK => by
    unfold Oper.wp
    rw [exec_loadM ty hty x ho w b o hx xs hl hc]
    exact hK _ _ h
theorem wps_loadM {ops : Array Oper} {rest : List Oper} {op : Oper} {a : Act} {w : World} {Q : Act → Prop} (ty : TypeId) (hty : ty = 22 ∨ ty = 24) (hw : Region.wanted op (yielded ops a.tmps) = true) (x : Operand) (ho : op.op = .load ty x)
    (b o : Nat) (hx : a.eval x = .pointer (some ⟨b, o, none⟩)) (xs : List Int) (hl : xs.length = 20) (hc : w.rangeAt b o (agL xs))
    (h : wpStill Try.prog ops w Q rest (a.put op.dst (.agg (ag xs)))) : wpStill Try.prog ops w Q (op :: rest) a :=
  wpStill_step fun K hK => by
    rw [if_pos hw]
    unfold Oper.still
    rw [exec_loadM ty hty x ho w b o hx xs hl hc, Oper.stillUpon_value]
    exact hK _ h
theorem yieldsM {ops : Array Oper} {S : World → Prop} {op : Oper} {a : Act} (ty : TypeId) (hty : ty = 22 ∨ ty = 24) (hw : Region.wanted op (yielded ops a.tmps) = true) (x : Operand) (ho : op.op = .load ty x)
    (b o : Nat) (hx : a.eval x = .pointer (some ⟨b, o, none⟩)) (xs : List Int) (hl : xs.length = 20) (hS : ∀ w, S w → w.rangeAt b o (agL xs)) : YieldsIf Try.prog ops S op (.agg (ag xs)) a :=
  .inl ⟨hw, fun w hw' => exec_loadM ty hty x ho w b o hx xs hl (hS w hw')⟩

/-! ### a block of so many cells -/
def Blk (w : World) (g : Nat) (t : TypeId) (m : Nat) : Prop := ∃ C : Array Value, w.heap[g]? = some (.cells C t) ∧ C.size = m
theorem Blk.lt {w : World} {g : Nat} {t : TypeId} {m : Nat} (h : Blk w g t m) : g < w.heap.size := by
  obtain ⟨C, h, _⟩ := h
  apply Classical.byContradiction; intro hn
  rw [Array.getElem?_eq_none (by omega)] at h; cases h
theorem Blk.there {w : World} {g : Nat} {t : TypeId} {m : Nat} (h : Blk w g t m) (o n : Nat) (ho : o + n ≤ m) : w.there g o n := by
  obtain ⟨C, h, hs⟩ := h
  intro j hj
  refine ⟨?_, by simp [World.frozen?, h]⟩
  rw [cell_of_row w g (o + j) C t _ h, Array.getElem?_eq_getElem (by omega)]
  rfl
theorem Blk.same {w w' : World} {g : Nat} {t : TypeId} {m : Nat} (h : Blk w g t m) (e : w'.heap[g]? = w.heap[g]?) : Blk w' g t m := by
  obtain ⟨C, h, hs⟩ := h
  exact ⟨C, by rw [e]; exact h, hs⟩
theorem Blk.stored {w : World} {g : Nat} {t : TypeId} {m : Nat} (h : Blk w g t m) (o : Nat) (vs : List Value) : Blk (w.setCells g o vs) g t m := by
  obtain ⟨C, h, hs⟩ := h
  exact ⟨_, heap_setCells_self g t vs o w C h, by rw [putL_size, hs]⟩
theorem Blk.new (w : World) (C : Array Value) (t : TypeId) {g : Nat} (hg : g = w.heap.size) : Blk (w.alloc (.cells C t)) g t C.size := ⟨C, by subst hg; exact heap_alloc_new w _, rfl⟩

/-- A struct is stored into a block of the call's own: the world behind it is a letter. -/
theorem wpl_storeB {ops : Array Oper} {rest : List Oper} {op : Oper} {a : Act} {w : World} {Q : Exit → Act → World → Prop} (ty : TypeId) (sz : Nat) (hi : (Try.prog.info? ty).map (·.size) = some sz) (hgd : op.guard = none) (x y : Operand) (ho : op.op = .store ty x y)
    (g o : Nat) (hx : a.eval x = .pointer (some ⟨g, o, none⟩)) (C : Array Value) (hy : a.eval y = .agg C) (hC : C.size = sz) (h1 : C.all (·.oneCell') = true) (ht : w.there g o sz)
    (h : ∀ w', w' = w.setCells g o C.toList → wpList Try.prog ops Q rest (a.put op.dst undef) w') : wpList Try.prog ops Q (op :: rest) a w :=
  wpList_store_mid hgd ty x y ho g o C hx hy (by rw [hC]; exact ht) (by rw [hi, hC]) h1 (h _ rfl)

/-! ### makes -/
theorem makes (t e sz by_ : Nat) (ht : Try.prog.underlying t = some (.slice e)) (hinfo : (Try.prog.info? e).map (fun i => (i.zero.isSome, i.size, i.bytes)) = some (true, sz, by_)) (n : Nat) (hn : n ≤ 1048576) (hby : by_ ≤ 1000) :
    ∃ C : Array Value, C.size = n * sz ∧ ∀ w, (Instr.makeSlice t (.int .i64 n) (.int .i64 n)).run Try.prog w = .ok (.slice (some ⟨w.heap.size, 0, none⟩) n n) (w.alloc (.cells C e)) := by
  cases hi : Try.prog.info? e with
  | none => rw [hi] at hinfo; cases hinfo
  | some i =>
    rw [hi] at hinfo
    simp only [Option.map_some, Option.some.injEq, Prod.mk.injEq] at hinfo
    obtain ⟨hz, hs, hb⟩ := hinfo
    obtain ⟨z, hz⟩ := Option.isSome_iff_exists.1 hz
    refine ⟨madeCells z.cells (n * sz), size_madeCells _ _, fun w => ?_⟩
    have hbn : (i.bytes : Int) * (n : Int) ≤ 281474976710656 := by
      have h1 : i.bytes * n ≤ 1000 * 1048576 := Nat.mul_le_mul (by omega) hn
      have h2 : ((i.bytes * n : Nat) : Int) ≤ 1000 * 1048576 := by omega
      rw [Int.natCast_mul] at h2
      omega
    have := run_make (P := Try.prog) w t e i z ht hi hz .i64 .i64 n n (by omega) (Int.le_refl _) hbn (by omega)
    simp only [Int.toNat_natCast, hs] at this
    exact this
theorem info68 : (Try.prog.info? 68).map (fun i => (i.zero.isSome, i.size, i.bytes)) = some (true, 21, 40) := by kernel_rfl
theorem info44 : (Try.prog.info? 44).map (fun i => (i.zero.isSome, i.size, i.bytes)) = some (true, 43, 80) := by kernel_rfl
theorem Try.size68 : (Try.prog.info? 68).map (·.size) = some 21 := by kernel_rfl
theorem Try.size44 : (Try.prog.info? 44).map (·.size) = some 43 := by kernel_rfl

/-! ### what 'build' builds -/
theorem foldl_cells (off : Nat) : ∀ (l : List (Value × Nat)) (cs : Array Value), (∀ p ∈ l, p.1.oneCell' = true) → cs.all (·.oneCell') = true →
    (l.foldl (fun cs (p : Value × Nat) => cs.setIfInBounds (off + p.2) p.1) cs).size = cs.size ∧ (l.foldl (fun cs (p : Value × Nat) => cs.setIfInBounds (off + p.2) p.1) cs).all (·.oneCell') = true
  | [], cs, _, h => ⟨rfl, h⟩
  | p :: l, cs, hp, h => by
    have h2 : (cs.setIfInBounds (off + p.2) p.1).all (·.oneCell') = true := by
      rw [Array.all_eq_true_iff_forall_mem] at h ⊢
      intro x hx
      rcases Array.mem_or_eq_of_mem_setIfInBounds hx with hx | hx
      · exact h x hx
      · rw [hx]; exact hp p (List.mem_cons_self ..)
    have := foldl_cells off l (cs.setIfInBounds (off + p.2) p.1) (fun q hq => hp q (List.mem_cons_of_mem _ hq)) h2
    simp only [List.foldl_cons]
    exact ⟨by rw [this.1]; simp, this.2⟩
theorem fill_ok (place : Nat → Option (Nat × Nat)) : ∀ (parts : List (Nat × Value)) (cells : Array Value), (∀ p ∈ parts, ∃ off size, place p.1 = some (off, size) ∧ p.2.cells.size = size ∧ off + size ≤ cells.size ∧ p.2.cells.all (·.oneCell') = true) → cells.all (·.oneCell') = true →
    ∃ C, Instr.fill place cells parts = some C ∧ C.size = cells.size ∧ C.all (·.oneCell') = true
  | [], cells, _, h => ⟨cells, rfl, rfl, h⟩
  | (i, v) :: rest, cells, hp, h => by
    obtain ⟨off, size, h1, h2, h3, h4⟩ := hp (i, v) (List.mem_cons_self ..)
    simp only at h1 h2 h3 h4
    have hf : (v.cells.zipIdx.foldl (fun cs (x : Value × Nat) => match x with | (c, j) => cs.setIfInBounds (off + j) c) cells) = v.cells.zipIdx.toList.foldl (fun cs (p : Value × Nat) => cs.setIfInBounds (off + p.2) p.1) cells := by
      rw [← Array.foldl_toList]
    have hk := foldl_cells off v.cells.zipIdx.toList cells (fun p hp' => by
      rw [Array.all_eq_true_iff_forall_mem] at h4
      have hm : p ∈ v.cells.zipIdx := Array.mem_toList_iff.1 hp'
      obtain ⟨x, j⟩ := p
      have := Array.mem_zipIdx hm
      exact h4 x (by rw [this.2.2]; exact Array.getElem_mem _)) h
    obtain ⟨C, e, e1, e2⟩ := fill_ok place rest (v.cells.zipIdx.foldl (fun cs (x : Value × Nat) => match x with | (c, j) => cs.setIfInBounds (off + j) c) cells) (fun p hp' => by
      obtain ⟨o', s', a1, a2, a3, a4⟩ := hp p (List.mem_cons_of_mem _ hp')
      exact ⟨o', s', a1, a2, by rw [hf, hk.1]; exact a3, a4⟩) (by rw [hf]; exact hk.2)
    refine ⟨C, ?_, by rw [e1, hf, hk.1], e2⟩
    rw [Instr.fill]
    simp only [h1]
    rw [if_neg (by simp [h2]; omega)]
    exact e
theorem ag_all (xs : List Int) : (ag xs).all (·.oneCell') = true := ag_oneCell xs

theorem fill68 (parts : List (Nat × Value)) : Try.prog.built 68 parts = Instr.fill ([(0, 1), (1, 20)].toArray[·]?) (#[.string ⟨#[]⟩] ++ ag z20) parts := by kernel_rfl
theorem fill44 (parts : List (Nat × Value)) : Try.prog.built 44 parts = Instr.fill ([(0, 1), (1, 1), (2, 20), (22, 20), (42, 1)].toArray[·]?) (#[.int .i64 0, .bool false] ++ ag z20 ++ ag z20 ++ #[.slice none 0 0]) parts := by kernel_rfl

theorem built68 (s : ByteArray) (xs : List Int) (hl : xs.length = 20) :
    ∃ C : Array Value, C.size = 21 ∧ C.all (·.oneCell') = true ∧ ∀ w, (Instr.build 68 #[(0, .string s), (1, .agg (ag xs))]).run Try.prog w = .ok (.agg C) w := by
  obtain ⟨C, h1, h2, h3⟩ := fill_ok ([(0, 1), (1, 20)].toArray[·]?) [(0, .string s), (1, .agg (ag xs))] (#[.string ⟨#[]⟩] ++ ag z20) (fun p hp => by
    simp only [List.mem_cons, List.not_mem_nil, or_false] at hp
    rcases hp with rfl | rfl
    · exact ⟨0, 1, rfl, rfl, by decide, by simp [Value.cells, Value.oneCell']⟩
    · exact ⟨1, 20, rfl, by rw [← hl]; exact ag_size xs, by decide, ag_all xs⟩) (by rw [Array.all_append, ag_all]; simp [Value.oneCell'])
  exact ⟨C, h2, h3, fun w => run_build w 68 _ _ (by rw [fill68]; exact h1)⟩
theorem built44 (pt : Int) (ow : Bool) (xs ys : List Int) (hl : xs.length = 20) (hl' : ys.length = 20) (ha : Option Addr) (n c : Nat) :
    ∃ C : Array Value, C.size = 43 ∧ C.all (·.oneCell') = true ∧ ∀ w, (Instr.build 44 #[(0, .int .i64 pt), (1, .bool ow), (2, .agg (ag xs)), (3, .agg (ag ys)), (4, .slice ha n c)]).run Try.prog w = .ok (.agg C) w := by
  obtain ⟨C, h1, h2, h3⟩ := fill_ok ([(0, 1), (1, 1), (2, 20), (22, 20), (42, 1)].toArray[·]?) [(0, .int .i64 pt), (1, .bool ow), (2, .agg (ag xs)), (3, .agg (ag ys)), (4, .slice ha n c)] (#[.int .i64 0, .bool false] ++ ag z20 ++ ag z20 ++ #[.slice none 0 0]) (fun p hp => by
    simp only [List.mem_cons, List.not_mem_nil, or_false] at hp
    rcases hp with rfl | rfl | rfl | rfl | rfl
    · exact ⟨0, 1, rfl, rfl, by decide, by simp [Value.cells, Value.oneCell']⟩
    · exact ⟨1, 1, rfl, rfl, by decide, by simp [Value.cells, Value.oneCell']⟩
    · exact ⟨2, 20, rfl, by rw [← hl]; exact ag_size xs, by decide, ag_all xs⟩
    · exact ⟨22, 20, rfl, by rw [← hl']; exact ag_size ys, by decide, ag_all ys⟩
    · exact ⟨42, 1, rfl, rfl, by decide, by simp [Value.cells, Value.oneCell']⟩) (by rw [Array.all_append, Array.all_append, Array.all_append, ag_all]; simp [Value.oneCell'])
  exact ⟨C, h2, h3, fun w => run_build w 44 _ _ (by rw [fill44]; exact h1)⟩
end Go.Proofs.Qxb6608829a
