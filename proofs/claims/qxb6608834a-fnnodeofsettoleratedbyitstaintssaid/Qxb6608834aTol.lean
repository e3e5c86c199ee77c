import Derived.Test.Qxb6608834aBase
namespace Go.Proofs.Qxb6608834a
open Go.RowKit
set_option linter.unusedVariables false
set_option linter.unusedSimpArgs false

/-! ### rows of a slice -/
/-- Row j of the slice (n rows of st cells, from its address) holds the cells L j. -/
def RowsIn (w : World) (st : Nat) (L : Nat → List Value) (a : Option Addr) (n : Nat) : Prop :=
  0 < n → ∃ b o, a = some ⟨b, o, none⟩ ∧ b < w.heap.size ∧ ∀ j, j < n → w.rangeAt b (o + j * st) (L j)
theorem RowsIn.below {w w' : World} {st : Nat} {L : Nat → List Value} {a : Option Addr} {n : Nat} (h : RowsIn w st L a n) (hb : Below w.heap.size w w') : RowsIn w' st L a n := fun hn =>
  let ⟨b, o, e, hl, hj⟩ := h hn
  ⟨b, o, e, Nat.lt_of_lt_of_le hl hb.size, fun j hjn => range_below (hj j hjn) hb hl⟩
theorem RowsIn.drew {w : World} {st : Nat} {L : Nat → List Value} {a : Option Addr} {n : Nat} (h : RowsIn w st L a n) : RowsIn w.drew st L a n := h
theorem RowsIn.take {w : World} {st : Nat} {L : Nat → List Value} {a : Option Addr} {n k : Nat} (h : RowsIn w st L a n) (hk : k ≤ n) : RowsIn w st L a k := fun hn =>
  let ⟨b, o, e, hl, hj⟩ := h (by omega)
  ⟨b, o, e, hl, fun j hjn => hj j (by omega)⟩
theorem RowsIn.drop {w : World} {st : Nat} {L : Nat → List Value} {b o : Nat} {n k : Nat} (h : RowsIn w st L (some ⟨b, o, none⟩) n) : RowsIn w st (fun j => L (k + j)) (some ⟨b, o + k * st, none⟩) (n - k) := fun hn =>
  let ⟨b', o', e, hl, hj⟩ := h (by omega)
  ⟨b, o + k * st, rfl, by cases e; exact hl, fun j hjn => by
    cases e
    have := hj (k + j) (by omega)
    rw [show o + k * st + j * st = o + (k + j) * st by rw [Nat.add_mul]; omega]
    exact this⟩
theorem rows_store {w : World} {st : Nat} {L : Nat → List Value} {g k : Nat} (hL : ∀ j, (L j).length = st) (h : ∀ j, j < k → w.rangeAt g (j * st) (L j)) (ht : w.there g (k * st) st) {vs : List Value} (hv : vs = L k) :
    ∀ j, j < k + 1 → (w.setCells g (k * st) vs).rangeAt g (j * st) (L j) := fun j hj => by
  subst hv
  by_cases hjk : j = k
  · subst hjk
    exact World.rangeAt_setCells_same w g _ _ (by rw [hL]; exact ht)
  · refine World.rangeAt_setCells_apart (h j (by omega)) _ _ _ (.inr (.inl ?_))
    rw [hL]
    have : (j + 1) * st ≤ k * st := Nat.mul_le_mul_right _ (by omega)
    rw [Nat.add_mul] at this
    omega
theorem RowsIn.of_new {w : World} {st : Nat} {L : Nat → List Value} {g n : Nat} (hg : g < w.heap.size) (h : ∀ j, j < n → w.rangeAt g (j * st) (L j)) : RowsIn w st L (some ⟨g, 0, none⟩) n := fun _ =>
  ⟨g, 0, rfl, hg, fun j hj => by rw [Nat.zero_add]; exact h j hj⟩

structure Tol where
  key : ByteArray
  op : ByteArray
  val : ByteArray
  eff : ByteArray
structure Tnt where
  key : ByteArray
  val : ByteArray
  eff : ByteArray
def ltolL (t : Tol) : List Value := [.string t.key, .string t.op, .string t.val, .string t.eff]
def tolL (t : Tol) : List Value := [.string t.key, .string t.op, .string t.val, .string t.eff, .pointer none]
def tntL (x : Tnt) : List Value := [.string x.key, .string x.val, .string x.eff]

theorem tolL_one (t : Tol) : (tolL t).toArray.all (·.oneCell') = true := by simp [tolL, Value.oneCell']
theorem ltolL_one (t : Tol) : (ltolL t).toArray.all (·.oneCell') = true := by simp [ltolL, Value.oneCell']
theorem tntL_one (t : Tnt) : (tntL t).toArray.all (·.oneCell') = true := by simp [tntL, Value.oneCell']
/-- The toleration matches the taint. -/
def tolB (t : Tol) (x : Tnt) : Bool :=
  if (!t.eff.toList.isEmpty && !(t.eff.toList == x.eff.toList)) = true then false
  else if (t.op.toList == [69, 120, 105, 115, 116, 115]) = true then (t.key.toList.isEmpty || t.key.toList == x.key.toList)
  else (t.key.toList == x.key.toList && t.val.toList == x.val.toList)

set_option maxHeartbeats 400000 in
theorem tolerates_any (t : Tol) (x : Tnt) (w : World) : Calls Try.prog 36 #[.agg (tolL t).toArray, .agg (tntL x).toArray] w fun e w' => e = .returned (.bool (tolB t x)) ∧ Below w.heap.size w w' := by
  obtain ⟨W, hW, hr1, hr2, hb⟩ : ∃ W, W = (w.alloc (.cells (tolL t).toArray 91)).alloc (.cells (tntL x).toArray 56) ∧ W.rangeAt w.heap.size 0 (tolL t) ∧ W.rangeAt (w.heap.size + 1) 0 (tntL x) ∧ Below w.heap.size w W :=
    ⟨_, rfl, range_below (range_new w _ _ rfl) (below1 _ _) (by simp), range_new _ _ _ (by simp), below2 _ _ _⟩
  have a0 : W.cell? ⟨w.heap.size, 0, none⟩ = some (.string t.key) := hr1 0 _ rfl
  have a1 : W.cell? ⟨w.heap.size, 1, none⟩ = some (.string t.op) := hr1 1 _ rfl
  have a2 : W.cell? ⟨w.heap.size, 2, none⟩ = some (.string t.val) := hr1 2 _ rfl
  have a3 : W.cell? ⟨w.heap.size, 3, none⟩ = some (.string t.eff) := hr1 3 _ rfl
  have b0 : W.cell? ⟨w.heap.size + 1, 0, none⟩ = some (.string x.key) := hr2 0 _ rfl
  have b1 : W.cell? ⟨w.heap.size + 1, 1, none⟩ = some (.string x.val) := hr2 1 _ rfl
  have b2 : W.cell? ⟨w.heap.size + 1, 2, none⟩ = some (.string x.eff) := hr2 2 _ rfl
  replace hb : Hid _ := hb
  clear hr1 hr2
  obtain ⟨r, hr⟩ : ∃ r, r = tolB t x := ⟨_, rfl⟩
  rw [← hr]
  replace hr : Hid _ := hr
  go_enter Try.func36, Try.ntmps36
  go_upto_region 1 with fail
  rw [← hW]
  clear hW
  go_wp2
  all_goals go_ret
  all_goals first
    | exact ⟨ret_bool (by rw [hr.out]; simp_all [tolB]), hb.out⟩
    | skip

/-! ### lawTolerations -/
theorem row_fits (st : Nat) {k n : Nat} (h : k < n) : k * st + st ≤ n * st := by
  have : (k + 1) * st ≤ n * st := Nat.mul_le_mul_right _ h
  rw [Nat.add_mul] at this
  omega
theorem size91 : (Try.prog.info? 91).map (·.size) = some 5 := by kernel_rfl
theorem info91 : (Try.prog.info? 91).map (fun i => (i.zero.isSome, i.size, i.bytes)) = some (true, 5, 72) := by kernel_rfl

def TolsPost (w : World) (F : Nat → Tol) (n : Nat) (e : Ending) (w' : World) : Prop := (∃ a, e = .returned (.slice a n n) ∧ RowsIn w' 5 (fun j => tolL (F j)) a n) ∧ Below w.heap.size w w'

theorem tolerations_nil (F : Nat → Tol) (c : Nat) (w : World) : Calls Try.prog 35 #[.slice none 0 c] w (TolsPost w F 0) := by
  have hnil := fun (w : World) (a : Option Addr) (n c n' c' : Nat) => Lib.run_eql_slice_nil (P := Try.prog) w 48 52 a n c n' c' Try.underlying48
  go_enter Try.func35, Try.ntmps35
  go_wp2
  go_ret
  exact ⟨⟨none, rfl, fun h => absurd h (by omega)⟩, Below.refl _ _⟩

def HeldT (w0 : World) (F : Nat → Tol) (n k : Nat) (w : World) : Prop := Below w0.heap.size w0 w ∧ Blk w w0.heap.size 91 (n * 5) ∧ ∀ j, j < k → w.rangeAt w0.heap.size (j * 5) (tolL (F j))

theorem HeldT.stored {w0 w : World} {F : Nat → Tol} {n k : Nat} (h : HeldT w0 F n k w) (hkn : k < n) : HeldT w0 F n (k + 1) (w.drew.setCells w0.heap.size (k * 5) (tolL (F k)).toArray.toList) :=
  ⟨below_setCells (Nat.le_refl _) _ _ _ h.1.drew, (Blk.same (w' := w.drew) h.2.1 rfl).stored _ _,
    rows_store (L := fun j => tolL (F j)) (st := 5) (fun _ => rfl) (w := w.drew) h.2.2 ((h.2.1.same (w' := w.drew) rfl).there _ _ (row_fits 5 hkn)) rfl⟩

set_option maxRecDepth 100000 in
set_option maxHeartbeats 400000 in
theorem tolerations_some (F : Nat → Tol) (x : Addr) (n c : Nat) (w : World) (hn : n ≤ 1048577) (hp : RowsIn w 4 (fun j => ltolL (F j)) (some x) n) : Calls Try.prog 35 #[.slice (some x) n c] w (TolsPost w F n) := by
  obtain ⟨C, hC, hmk⟩ := makes 79 91 5 72 Try.underlying79 info91 n hn (by omega)
  have hnil := fun (w : World) (a : Option Addr) (n c n' c' : Nat) => Lib.run_eql_slice_nil (P := Try.prog) w 48 52 a n c n' c' Try.underlying48
  have HC : Hid (C.size = n * 5) := hC
  clear hC
  replace hp : Hid (RowsIn w 4 (fun j => ltolL (F j)) (some x) n) := hp
  go_enter Try.func35, Try.ntmps35
  go_wp2
  go_loopw [4] (fun i wr => ∃ k : Nat, k ≤ n ∧ i = .int .i64 k ∧ Hid (HeldT w F n k wr)) (fun i _ => n - (intOf i).toNat)
  case atStart => exact ⟨0, Nat.zero_le _, rfl, (Below.refl _ _).alloc (Nat.le_refl _) _, by rw [← HC.out]; exact Blk.new w C 91 rfl, fun j hj => absurd hj (by omega)⟩
  case round =>
    obtain ⟨k, hk, rfl, hH⟩ := hrel
    by_cases hkn : k < n
    · obtain ⟨b, o, hx, hl, hj⟩ := hp.out (by omega)
      cases hx
      have hr := range_below (hj k hkn) hH.out.1 hl
      have a0 : wr.cell? ⟨b, o + k * 4, none⟩ = some (.string (F k).key) := hr 0 _ rfl
      have a1 : wr.cell? ⟨b, o + k * 4 + 1, none⟩ = some (.string (F k).op) := hr 1 _ rfl
      have a2 : wr.cell? ⟨b, o + k * 4 + 2, none⟩ = some (.string (F k).val) := hr 2 _ rfl
      have a3 : wr.cell? ⟨b, o + k * 4 + 3, none⟩ = some (.string (F k).eff) := hr 3 _ rfl
      have hk0 : (0 : Int) ≤ (k : Int) := by omega
      have hk1 : (k : Int) < (n : Int) := by omega
      clear hr hj hl hp hmk hnil
      go_wp2
      refine wp_region_still_tail 24 (by kernel_rfl) (by kernel_rfl) ?_
      simp only [List.take_succ_cons, List.take_zero, List.drop_succ_cons, List.drop_zero]
      change wpStill _ _ wr.drew _ _ _
      iterate 24 still_step
      refine wpStill_nil ?_
      refine wpl_storeB 91 5 size91 ?_ (.tmp 39) (.tmp 38) ?_ w.heap.size (k * 5) ?_ (tolL (F k)).toArray ?_ rfl (tolL_one _) ?_ ?_
      · rfl
      · rfl
      · rfl
      · rfl
      · exact (hH.out.2.1.same (w' := wr.drew) rfl).there _ _ (row_fits 5 hkn)
      rintro w2 hw2
      have H2 : Hid (HeldT w F n (k + 1) w2) := by
        subst hw2
        exact hH.out.stored hkn
      clear hw2 hH a0 a1 a2 a3
      go_wp2
      go_roundw
      case rel => exact ⟨k + 1, by omega, by go_num, H2⟩
      case measure => simp [intOf]; omega
    · have hkk : k = n := by omega
      subst hkk
      go_wp2
      go_ret
      exact ⟨⟨_, rfl, RowsIn.of_new hH.out.2.1.lt hH.out.2.2⟩, hH.out.1⟩

theorem tolerations_any (F : Nat → Tol) (a : Option Addr) (n c : Nat) (w : World) (hn : n ≤ 1048577) (hz : a = none → n = 0) (hp : RowsIn w 4 (fun j => ltolL (F j)) a n) : Calls Try.prog 35 #[.slice a n c] w (TolsPost w F n) := by
  cases a with
  | none => cases hz rfl; exact tolerations_nil F c w
  | some x => exact tolerations_some F x n c w hn hp
end Go.Proofs.Qxb6608834a
