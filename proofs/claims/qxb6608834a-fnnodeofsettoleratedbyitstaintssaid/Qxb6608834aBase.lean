import Derived.Test.Qxb6608834aProg
import Derived.WalkKit
import Derived.WalkSpells
import Derived.WalkLawsBesides
import Derived.Laws.Rows
import Derived.Deep.MidRow
import Derived.Deep.RegionHeld3
import Derived.StillTailTactics
import Derived.Deep.QuietTactic
import Derived.BigQuiet
import Derived.Deep.Cut
import Derived.Laws.Tables
import Derived.KernelRfl
namespace Go.Proofs.Qxb6608834a
open Go.RowKit
set_option linter.unusedVariables false
set_option linter.unusedSimpArgs false

/-! ### worlds, blocks -/
theorem below_setCells {B b : Nat} {a : World} (hb : B ≤ b) : ∀ (vs : List Value) (o : Nat) (w : World), Below B a w → Below B a (w.setCells b o vs)
  | [], _, _, h => h
  | v :: r, o, w, h => below_setCells hb r (o + 1) _ (h.setCell (by exact hb) v)
theorem below2 (w : World) (o1 o2 : Obj) : Below w.heap.size w ((w.alloc o1).alloc o2) := ((Below.refl _ _).alloc (Nat.le_refl _) _).alloc (by simp) _
theorem below1 (w : World) (o1 : Obj) : Below w.heap.size w (w.alloc o1) := (Below.refl _ _).alloc (Nat.le_refl _) _
theorem heap_at (w : World) (o : Obj) {n : Nat} (h : n = w.heap.size) : (w.alloc o).heap[n]? = some o := by subst h; exact heap_alloc_new w o
def putL (c : Array Value) (o : Nat) : List Value → Array Value
  | [] => c
  | v :: r => putL (c.setIfInBounds o v) (o + 1) r
theorem heap_setCells_self (b : Nat) (t : TypeId) : ∀ (vs : List Value) (o : Nat) (w : World) (c : Array Value), w.heap[b]? = some (.cells c t) → (w.setCells b o vs).heap[b]? = some (.cells (putL c o vs) t)
  | [], _, _, _, h => h
  | v :: r, o, w, c, h => by
    refine heap_setCells_self b t r (o + 1) (w.setCell ⟨b, o, none⟩ v) (c.setIfInBounds o v) ?_
    simp only [World.setCell, Array.getElem?_modify]
    simp [h]
theorem heap_setCells_oth (b : Nat) : ∀ (vs : List Value) (o : Nat) (w : World) (k : Nat), k ≠ b → (w.setCells b o vs).heap[k]? = w.heap[k]?
  | [], _, _, _, _ => rfl
  | v :: r, o, w, k, h => by
    show ((w.setCell ⟨b, o, none⟩ v).setCells b (o + 1) r).heap[k]? = _
    rw [heap_setCells_oth b r (o + 1) _ k h]
    exact Below.heap_setCell _ _ _ _ h
theorem putL_size : ∀ (vs : List Value) (c : Array Value) (o : Nat), (putL c o vs).size = c.size
  | [], _, _ => rfl
  | v :: r, c, o => by simp [putL, putL_size r]
def Blk (w : World) (g : Nat) (t : TypeId) (m : Nat) : Prop := ∃ C : Array Value, w.heap[g]? = some (.cells C t) ∧ C.size = m
theorem Blk.lt {w : World} {g : Nat} {t : TypeId} {m : Nat} (h : Blk w g t m) : g < w.heap.size := by
  obtain ⟨C, h, _⟩ := h
  apply Classical.byContradiction; intro hn
  rw [Array.getElem?_eq_none (by omega)] at h; cases h
theorem Blk.there {w : World} {g : Nat} {t : TypeId} {m : Nat} (h : Blk w g t m) (o n : Nat) (ho : o + n ≤ m) : w.there g o n := by
  obtain ⟨C, h, hs⟩ := h
  intro j hj
  refine ⟨?_, by simp [World.frozen?, h]⟩
  rw [cell_of_row w g (o + j) C t _ h, Array.getElem?_eq_getElem (by omega)]
  rfl
theorem Blk.same {w w' : World} {g : Nat} {t : TypeId} {m : Nat} (h : Blk w g t m) (e : w'.heap[g]? = w.heap[g]?) : Blk w' g t m := by
  obtain ⟨C, h, hs⟩ := h
  exact ⟨C, by rw [e]; exact h, hs⟩
theorem Blk.below {w w' : World} {g : Nat} {t : TypeId} {m : Nat} (h : Blk w g t m) {B : Nat} (hb : Below B w w') (hB : g < B) : Blk w' g t m := h.same (hb.block g hB)
theorem Blk.stored {w : World} {g : Nat} {t : TypeId} {m : Nat} (h : Blk w g t m) (o : Nat) (vs : List Value) : Blk (w.setCells g o vs) g t m := by
  obtain ⟨C, h, hs⟩ := h
  exact ⟨_, heap_setCells_self g t vs o w C h, by rw [putL_size, hs]⟩
theorem Blk.new (w : World) (C : Array Value) (t : TypeId) {g : Nat} (hg : g = w.heap.size) : Blk (w.alloc (.cells C t)) g t C.size := ⟨C, heap_at w _ hg, rfl⟩
theorem range_same {w w' : World} {g o : Nat} {cs : List Value} (h : w.rangeAt g o cs) (e : w'.heap[g]? = w.heap[g]?) : w'.rangeAt g o cs := fun j v hv => by
  rw [← h j v hv]; simp [World.cell?, e]
theorem range_below {w w' : World} {B g o : Nat} {cs : List Value} (h : w.rangeAt g o cs) (hb : Below B w w') (hB : g < B) : w'.rangeAt g o cs := range_same h (hb.block g hB)
theorem range_new (w : World) (C : List Value) (t : TypeId) {g : Nat} (hg : g = w.heap.size) : (w.alloc (.cells C.toArray t)).rangeAt g 0 C := fun j v hv => by
  rw [Nat.zero_add, cell_of_row _ g j C.toArray t _ (heap_at w _ hg)]
  simpa using hv
theorem lt_of_cell {w : World} {a : Addr} {v : Value} (h : w.cell? a = some v) : a.block < w.heap.size := by
  apply Classical.byContradiction
  intro hn
  have : w.heap[a.block]? = none := Array.getElem?_eq_none (by omega)
  simp [World.cell?, this] at h

/-! ### operations -/
theorem wpl_exec {ops : Array Oper} {rest : List Oper} {op : Oper} {a : Act} {w : World} {Q : Exit → Act → World → Prop} (v : Value) (hw : Region.wanted op (yielded ops a.tmps) = true) (he : (execOp a.eval op).run Try.prog w = .ok (.value v) w)
    (h : wpList Try.prog ops Q rest (a.put op.dst v) w) : wpList Try.prog ops Q (op :: rest) a w :=
  BigFrame.wpList_want hw fun K hK => by
    unfold Oper.wp
    rw [he]
    exact hK _ _ h
theorem wps_exec {ops : Array Oper} {rest : List Oper} {op : Oper} {a : Act} {w : World} {Q : Act → Prop} (v : Value) (hw : Region.wanted op (yielded ops a.tmps) = true) (he : (execOp a.eval op).run Try.prog w = .ok (.value v) w)
    (h : wpStill Try.prog ops w Q rest (a.put op.dst v)) : wpStill Try.prog ops w Q (op :: rest) a :=
  wpStill_step fun K hK => by
    rw [if_pos hw]
    unfold Oper.still
    rw [he, Oper.stillUpon_value]
    exact hK _ h
theorem exec_load {a : Act} {op : Oper} (ty : TypeId) (fs : Array Field) (hu : Try.prog.underlying ty = some (.struct fs)) (cs : List Value) (hi : (Try.prog.info? ty).map (·.size) = some cs.length) (x : Operand) (ho : op.op = .load ty x) (w : World) (b o : Nat) (hx : a.eval x = .pointer (some ⟨b, o, none⟩)) (hc : w.rangeAt b o cs) :
    (execOp a.eval op).run Try.prog w = .ok (.value (.agg cs.toArray)) w := by
  have := run_loadAt_mid (P := Try.prog) w b o ty cs _ hc hu rfl hi
  unfold execOp
  simp only [ho, hx, Sem.run_bind, this, Sem.run_pure, Result.andThen_ok]
theorem wpl_storeB {ops : Array Oper} {rest : List Oper} {op : Oper} {a : Act} {w : World} {Q : Exit → Act → World → Prop} (ty : TypeId) (sz : Nat) (hi : (Try.prog.info? ty).map (·.size) = some sz) (hgd : op.guard = none) (x y : Operand) (ho : op.op = .store ty x y)
    (g o : Nat) (hx : a.eval x = .pointer (some ⟨g, o, none⟩)) (C : Array Value) (hy : a.eval y = .agg C) (hC : C.size = sz) (h1 : C.all (·.oneCell') = true) (ht : w.there g o sz)
    (h : ∀ w', w' = w.setCells g o C.toList → wpList Try.prog ops Q rest (a.put op.dst undef) w') : wpList Try.prog ops Q (op :: rest) a w :=
  wpList_store_mid hgd ty x y ho g o C hx hy (by rw [hC]; exact ht) (by rw [hi, hC]) h1 (h _ rfl)
/-- 'wpAnyH_take', the slot named: the frame is laid out anew. -/
theorem wpAnyH_takeD {P : Program} {ops : Array Oper} {Q : Exit → Act → World → Prop} {md : Region.Mode} {S : World → Prop} {i : Nat} {oi : Oper} (d : Nat) {v : Value} {fuel : Nat} {listed : Array Bool} {l : List Value} {ds : List Deferred} {w : World} (hi : ops[i]? = some oi) (hd : oi.dst = some d)
    (hs : Region.noSelect ops = true) (hf : Region.free md ops listed i = true) (hr : (Region.ready md ops listed).contains i = true)
    (hQ : ∀ c a w, Q (.panic c) (a.put (some d) v) w → Q (.panic c) a w) (hy : YieldsIf P ops S oi v ⟨l.toArray, ds⟩) (hS : S w)
    (h : wpAnyH P md ops Q S fuel (listed.setIfInBounds i true) ⟨(l.set d v).toArray, ds⟩ w) : wpAnyH P md ops Q S (fuel + 1) listed ⟨l.toArray, ds⟩ w := by
  refine wpAnyH_take hi hs hf hr (by rw [hd]; exact hQ) hy hS ?_
  rw [hd]
  have : Act.put ⟨l.toArray, ds⟩ (some d) v = ⟨(l.set d v).toArray, ds⟩ := by simp [Act.put]
  rw [this]
  exact h
theorem makes (t e sz by_ : Nat) (ht : Try.prog.underlying t = some (.slice e)) (hinfo : (Try.prog.info? e).map (fun i => (i.zero.isSome, i.size, i.bytes)) = some (true, sz, by_)) (n : Nat) (hn : n ≤ 1048577) (hby : by_ ≤ 1000) :
    ∃ C : Array Value, C.size = n * sz ∧ ∀ w, (Instr.makeSlice t (.int .i64 n) (.int .i64 n)).run Try.prog w = .ok (.slice (some ⟨w.heap.size, 0, none⟩) n n) (w.alloc (.cells C e)) := by
  cases hi : Try.prog.info? e with
  | none => rw [hi] at hinfo; cases hinfo
  | some i =>
    rw [hi] at hinfo
    simp only [Option.map_some, Option.some.injEq, Prod.mk.injEq] at hinfo
    obtain ⟨hz, hs, hb⟩ := hinfo
    obtain ⟨z, hz⟩ := Option.isSome_iff_exists.1 hz
    refine ⟨madeCells z.cells (n * sz), size_madeCells _ _, fun w => ?_⟩
    have hbn : (i.bytes : Int) * (n : Int) ≤ 281474976710656 := by
      have h1 : i.bytes * n ≤ 1000 * 1048577 := Nat.mul_le_mul (by omega) hn
      have h2 : ((i.bytes * n : Nat) : Int) ≤ 1000 * 1048577 := by omega
      rw [Int.natCast_mul] at h2
      omega
    have := run_make (P := Try.prog) w t e i z ht hi hz .i64 .i64 n n (by omega) (Int.le_refl _) hbn (by omega)
    simp only [Int.toNat_natCast, hs] at this
    exact this
theorem ret_bool {a b : Bool} (h : a = b) : Ending.returned (.bool a) = .returned (.bool b) := by rw [h]
theorem ret_int {k : IntKind} {a b : Int} (h : a = b) : Ending.returned (.int k a) = .returned (.int k b) := by rw [h]
end Go.Proofs.Qxb6608834a
