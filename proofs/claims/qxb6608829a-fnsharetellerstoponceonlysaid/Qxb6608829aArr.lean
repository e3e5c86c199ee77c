import Derived.Test.Qxb6608829aProg
import Derived.Test.Qxb6608829aPlain
import Derived.WalkKit
import Derived.WalkSpells
import Derived.WalkLawsBesides
import Derived.Laws.Rows
import Derived.Deep.MidRow
import Derived.Lib.BytesEntry
import Derived.KernelRfl
namespace Go.Proofs.Qxb6608829a
open Go.RowKit

def ag (xs : List Int) : Array Value := (xs.map (Value.int .u8)).toArray
theorem ag_size (xs : List Int) : (ag xs).size = xs.length := by simp [ag]
theorem ag_get (xs : List Int) (k : Nat) (h : k < xs.length) : (ag xs)[k]? = some (.int .u8 (xs.getD k 0)) := by
  simp [ag, List.getD, List.getElem?_eq_getElem h]
theorem ag_set (xs : List Int) (k : Nat) (v : Int) : (ag xs).setIfInBounds k (.int .u8 v) = ag (xs.set k v) := by
  apply Array.ext'
  simp [ag, List.map_set]
def z20 : List Int := [0,0,0,0,0,0,0,0,0,0,0,0,0,0,0,0,0,0,0,0]
theorem ag_zero : #[Value.int .u8 0, .int .u8 0, .int .u8 0, .int .u8 0, .int .u8 0, .int .u8 0, .int .u8 0, .int .u8 0, .int .u8 0, .int .u8 0, .int .u8 0, .int .u8 0, .int .u8 0, .int .u8 0, .int .u8 0, .int .u8 0, .int .u8 0, .int .u8 0, .int .u8 0, .int .u8 0] = ag z20 := rfl
theorem ag_one : (ag z20).setIfInBounds 19 (.int .u8 1) = ag one20 := rfl
theorem z20_byts : Byts z20 := by
  intro n hn
  simp [z20] at hn
  omega
theorem ag_inj {xs ys : List Int} (h : ag xs = ag ys) : xs = ys := by
  have h' : xs.map (Value.int .u8) = ys.map (Value.int .u8) := by simpa [ag] using h
  exact List.map_inj_right (fun a b e => by injection e) |>.1 h'
theorem ag_oneCell (xs : List Int) : (ag xs).all (·.oneCell') = true := by
  simp [ag, Value.oneCell']
theorem ag_toList (xs : List Int) : (ag xs).toList = xs.map (Value.int .u8) := by simp [ag]

theorem Try.size22 : (Try.prog.info? 22).map (·.size) = some 20 := by kernel_rfl
theorem Try.size24 : (Try.prog.info? 24).map (·.size) = some 20 := by kernel_rfl

/-- Block 'b' is a row of twenty bytes. -/
def RowAt (w : World) (b : Nat) (t : TypeId) (xs : List Int) : Prop := w.heap[b]? = some (.cells (ag xs) t)
theorem RowAt.new (w : World) (t : TypeId) (xs : List Int) {b : Nat} (hb : b = w.heap.size) : RowAt (w.alloc (.cells (ag xs) t)) b t xs := by subst hb; exact heap_alloc_new w _
theorem RowAt.alloc {w : World} {b : Nat} {t : TypeId} {xs : List Int} (h : RowAt w b t xs) (o : Obj) : RowAt (w.alloc o) b t xs := by
  have hb : b < w.heap.size := by
    apply Classical.byContradiction; intro hn
    unfold RowAt at h; rw [Array.getElem?_eq_none (by omega)] at h; cases h
  unfold RowAt; rw [heap_alloc_old _ _ hb]; exact h
theorem RowAt.drewN {w : World} {b : Nat} {t : TypeId} {xs : List Int} (h : RowAt w b t xs) (n : Nat) : RowAt (w.drewN n) b t xs := h
theorem RowAt.drew {w : World} {b : Nat} {t : TypeId} {xs : List Int} (h : RowAt w b t xs) : RowAt w.drew b t xs := h
theorem RowAt.below {w w' : World} {b : Nat} {t : TypeId} {xs : List Int} (h : RowAt w b t xs) {B : Nat} (hb : Below B w w') (hB : b < B) : RowAt w' b t xs := by
  unfold RowAt; rw [hb.block b hB]; exact h
theorem RowAt.lt {w : World} {b : Nat} {t : TypeId} {xs : List Int} (h : RowAt w b t xs) : b < w.heap.size := by
  apply Classical.byContradiction; intro hn
  unfold RowAt at h; rw [Array.getElem?_eq_none (by omega)] at h; cases h
theorem RowAt.cell {w : World} {b : Nat} {t : TypeId} {xs : List Int} (h : RowAt w b t xs) (k : Nat) (hk : k < xs.length) : w.cell? ⟨b, k, none⟩ = some (.int .u8 (xs.getD k 0)) := by
  rw [cell_of_row w b k _ t _ h, ag_get xs k hk]
theorem RowAt.range {w : World} {b : Nat} {t : TypeId} {xs : List Int} (h : RowAt w b t xs) : w.rangeAt b 0 (xs.map (Value.int .u8)) := by
  intro j v hv
  have hj : j < xs.length := by have := (List.getElem?_eq_some_iff.1 hv).1; simpa using this
  rw [Nat.zero_add, h.cell j hj]
  simp [List.getElem?_eq_getElem hj] at hv ⊢
  exact hv
theorem RowAt.frozen {w : World} {b : Nat} {t : TypeId} {xs : List Int} (h : RowAt w b t xs) (k : Nat) : w.frozen? ⟨b, k, none⟩ = false := by
  unfold RowAt at h
  simp [World.frozen?, h]
theorem RowAt.there {w : World} {b : Nat} {t : TypeId} {xs : List Int} (h : RowAt w b t xs) : w.there b 0 xs.length := by
  intro j hj
  rw [Nat.zero_add]
  exact ⟨by rw [h.cell j hj]; rfl, h.frozen j⟩

theorem below_setCells {B b : Nat} {a : World} (hb : B ≤ b) : ∀ (vs : List Value) (o : Nat) (w : World), Below B a w → Below B a (w.setCells b o vs)
  | [], _, _, h => h
  | v :: r, o, w, h => below_setCells hb r (o + 1) _ (h.setCell (by exact hb) v)

/-- A whole array is read (type 22 or 24). -/
theorem wpl_load {ops : Array Oper} {rest : List Oper} {o : Oper} {a : Act} {w : World} {Q : Exit → Act → World → Prop} (ty : TypeId) (hty : ty = 22 ∨ ty = 24) (hgd : o.guard = none) (x : Operand) (ho : o.op = .load ty x)
    (g : Nat) (hx : a.eval x = .pointer (some ⟨g, 0, none⟩)) (t : TypeId) (xs : List Int) (hg : RowAt w g t xs) (hl : xs.length = 20)
    (h : wpList Try.prog ops Q rest (a.put o.dst (.agg (ag xs))) w) : wpList Try.prog ops Q (o :: rest) a w := by
  rcases hty with rfl | rfl
  · exact wpList_load_row hgd 22 x ho g hx t (ag xs) _ _ hg Try.underlying22 rfl (by rw [Try.size22, ag_size, hl]) h
  · exact wpList_load_row hgd 24 x ho g hx t (ag xs) _ _ hg Try.underlying24 rfl (by rw [Try.size24, ag_size, hl]) h
/-- A whole array is stored. -/
theorem wpl_store {ops : Array Oper} {rest : List Oper} {o : Oper} {a : Act} {w : World} {Q : Exit → Act → World → Prop} (ty : TypeId) (hty : ty = 22 ∨ ty = 24) (hgd : o.guard = none) (x y : Operand) (ho : o.op = .store ty x y)
    (g : Nat) (hx : a.eval x = .pointer (some ⟨g, 0, none⟩)) (ys : List Int) (hy : a.eval y = .agg (ag ys)) (t : TypeId) (xs : List Int) (hg : RowAt w g t xs) (hl : xs.length = 20) (hl' : ys.length = 20)
    (h : wpList Try.prog ops Q rest (a.put o.dst undef) (w.setCells g 0 (ys.map (Value.int .u8)))) : wpList Try.prog ops Q (o :: rest) a w := by
  have ht : w.there g 0 (ag ys).size := by rw [ag_size, hl', ← hl]; exact hg.there
  rw [← ag_toList] at h
  rcases hty with rfl | rfl
  · exact wpList_store_mid hgd 22 x y ho g 0 (ag ys) hx hy ht (by rw [Try.size22, ag_size, hl']) (ag_oneCell _) h
  · exact wpList_store_mid hgd 24 x y ho g 0 (ag ys) hx hy ht (by rw [Try.size24, ag_size, hl']) (ag_oneCell _) h

/-- The result is an array that has just been stored. -/
theorem results_arr {fn : Func} {p : Tmp} (h : fn.results = #[.cell p 22]) (tmps : Array Value) (w : World) (g : Nat) (t : TypeId) (xs ys : List Int)
    (hp : tmps.getD p undef = .pointer (some ⟨g, 0, none⟩)) (hg : RowAt w g t xs) (hl : xs.length = 20) (hl' : ys.length = 20) :
    (results fn tmps).run Try.prog (w.setCells g 0 (ys.map (Value.int .u8))) = .ok (.agg (ag ys)) (w.setCells g 0 (ys.map (Value.int .u8))) := by
  have hp' : tmps[p]?.getD undef = .pointer (some ⟨g, 0, none⟩) := by simpa using hp
  have hr := World.rangeAt_setCells_same w g 0 (ys.map (Value.int .u8)) (by have := hg.there; simpa [hl, hl'] using this)
  have := run_loadVar_mid (P := Try.prog) (w.setCells g 0 (ys.map (Value.int .u8))) g 0 22 (ys.map (Value.int .u8)) _ hr Try.underlying22 rfl (by rw [Try.size22]; simp [hl'])
  simp [results, h, hp', asAddr, this, ag]
end Go.Proofs.Qxb6608829a
