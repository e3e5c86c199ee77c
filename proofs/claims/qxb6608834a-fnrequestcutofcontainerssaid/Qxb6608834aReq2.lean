import Derived.Test.Qxb6608834aReq1
namespace Go.Proofs.Qxb6608834a
open Go.RowKit Go.Maps Go.WideMaps
set_option linter.unusedVariables false
set_option linter.unusedSimpArgs false

def iL (v : Int) : List Value := [.int .i64 v]
/-! ### lawAllNonNegative -/
def NonPost (w : World) (X : Nat → Int) (n : Nat) (e : Ending) (w' : World) : Prop := (e = .returned (.bool false) ∨ (e = .returned (.bool true) ∧ ∀ j, j < n → 0 ≤ X j)) ∧ w' = w
set_option maxHeartbeats 400000 in
theorem allNon_any (X : Nat → Int) (a : Option Addr) (n c : Nat) (w : World) (hn : n ≤ 1048576) (hp : RowsIn w 1 (fun j => iL (X j)) a n) : Calls Try.prog 9 #[.slice a n c] w (NonPost w X n) := by
  replace hp : Hid (RowsIn w 1 (fun j => iL (X j)) a n) := hp
  go_enter Try.func9, Try.ntmps9
  go_wp2
  go_loopw [3] (fun i wr => ∃ k : Nat, k ≤ n ∧ i = .int .i64 k ∧ wr = w ∧ Hid (∀ j, j < k → 0 ≤ X j)) (fun i _ => n - (intOf i).toNat)
  case atStart => exact ⟨0, Nat.zero_le _, rfl, rfl, fun j hj => absurd hj (by omega)⟩
  case round =>
    obtain ⟨k, hk, rfl, rfl, hF⟩ := hrel
    by_cases hkn : k < n
    · obtain ⟨b, o, rfl, hl, hj⟩ := hp.out (by omega)
      have a0 : wr.cell? ⟨b, o + k, none⟩ = some (.int .i64 (X k)) := by have := hj k hkn 0 _ rfl; simpa using this
      have hk0 : (0 : Int) ≤ (k : Int) := by omega
      have hk1 : (k : Int) < (n : Int) := by omega
      clear hj hl
      by_cases hx : X k < 0
      · go_wp2
        go_ret
        exact ⟨.inl rfl, rfl⟩
      · go_wp2
        go_roundw
        case rel => exact ⟨k + 1, by omega, by go_num, trivial, fun j hj => by
          by_cases hjk : j = k
          · subst hjk; omega
          · exact hF.out j (by omega)⟩
        case measure => simp [intOf]; omega
    · have hkk : k = n := by omega
      subst hkk
      go_wp2
      go_ret
      exact ⟨.inr ⟨rfl, hF.out⟩, rfl⟩

def Bytes2Post (w : World) (n m : Nat) (e : Ending) (w' : World) : Prop := (e = .returned (.bool false) ∨ (e = .returned (.bool true) ∧ n ≤ 1048576 ∧ m ≤ 1048576)) ∧ w' = w
theorem bytes15_any (a a' : Option Addr) (n c n' c' : Nat) (x j : Int) (w : World) (hn : n ≤ 9223372036854775807) (hn' : n' ≤ 9223372036854775807) : Calls Try.prog 15 #[.slice a n c, .slice a' n' c', .int .i64 x, .int .i64 j] w (Bytes2Post w n n') := by
  go_enter Try.func15, Try.ntmps15
  go_wp2
  all_goals go_ret
  all_goals first
    | exact ⟨.inl rfl, rfl⟩
    | exact ⟨.inr ⟨rfl, by omega, by omega⟩, rfl⟩
theorem bytes8_any (a a' : Option Addr) (n c n' c' : Nat) (j : Int) (w : World) (hn : n ≤ 9223372036854775807) (hn' : n' ≤ 9223372036854775807) : Calls Try.prog 8 #[.slice a n c, .slice a' n' c', .int .i64 j] w (Bytes2Post w n n') := by
  go_enter Try.func8, Try.ntmps8
  go_wp2
  all_goals go_ret
  all_goals first
    | exact ⟨.inl rfl, rfl⟩
    | exact ⟨.inr ⟨rfl, by omega, by omega⟩, rfl⟩

/-! ### lawInsertAmount -/
theorem info2 : (Try.prog.info? 2).map (fun i => (i.zero.isSome, i.size, i.bytes)) = some (true, 1, 8) := by kernel_rfl
def insI (X : Nat → Int) (k : Nat) (t : Int) (i : Nat) : Int := if i < k then X i else if i = k then t else X (i - 1)
def InsIPost (w : World) (X : Nat → Int) (n k : Nat) (t : Int) (e : Ending) (w' : World) : Prop := (∃ g, e = .returned (.slice (some ⟨g, 0, none⟩) (n + 1) (n + 1)) ∧ RowsIn w' 1 (fun j => iL (insI X k t j)) (some ⟨g, 0, none⟩) (n + 1)) ∧ Below w.heap.size w w'
def HeldN (w0 : World) (G : Nat → Int) (n k : Nat) (w : World) : Prop := Below w0.heap.size w0 w ∧ Blk w w0.heap.size 2 ((n + 1) * 1) ∧ ∀ j, j < k → w.rangeAt w0.heap.size (j * 1) (iL (G j))
theorem HeldN.stored {w0 w : World} {G : Nat → Int} {n k : Nat} (h : HeldN w0 G n k w) (hkn : k < n + 1) {x : Int} (hx : x = G k) : HeldN w0 G n (k + 1) (w.setCell ⟨w0.heap.size, k, none⟩ (.int .i64 x)) := by
  subst hx
  have e : w.setCell ⟨w0.heap.size, k, none⟩ (.int .i64 (G k)) = w.setCells w0.heap.size (k * 1) (iL (G k)) := by rw [Nat.mul_one]; rfl
  rw [e]
  exact ⟨below_setCells (Nat.le_refl _) _ _ _ h.1, h.2.1.stored _ _, rows_store (L := fun j => iL (G j)) (st := 1) (fun _ => rfl) h.2.2 (h.2.1.there _ _ (row_fits 1 hkn)) rfl⟩
theorem HeldN.cell {w0 w : World} {G : Nat → Int} {n k : Nat} (h : HeldN w0 G n k w) (hkn : k < n + 1) : ∃ v, w.cell? ⟨w0.heap.size, k, none⟩ = some v ∧ w.frozen? ⟨w0.heap.size, k, none⟩ = false := by
  have := h.2.1.there k 1 (by omega) 0 (by omega)
  obtain ⟨v, hv⟩ := Option.isSome_iff_exists.1 this.1
  exact ⟨v, hv, this.2⟩

set_option maxRecDepth 100000 in
set_option maxHeartbeats 1000000 in
theorem insertAmt_any (X : Nat → Int) (a : Option Addr) (n c k : Nat) (t : Int) (w : World) (hn : n ≤ 1048576) (hkn : k ≤ n) (hp : RowsIn w 1 (fun j => iL (X j)) a n) : Calls Try.prog 16 #[.slice a n c, .int .i64 k, .int .i64 t] w (InsIPost w X n k t) := by
  obtain ⟨C, hC, hmk⟩ := makes 22 2 1 8 Try.underlying22 info2 (n + 1) (by omega) (by omega)
  rw [show ((n + 1 : Nat) : Int) = (n : Int) + 1 from rfl] at hmk
  replace hC : Hid (C.size = (n + 1) * 1) := hC
  replace hp : Hid (RowsIn w 1 (fun j => iL (X j)) a n) := hp
  go_enter Try.func16, Try.ntmps16
  go_upto_region 3 with fail
  obtain ⟨W1, hW1, hH⟩ : ∃ W1, W1 = w.alloc (.cells C 2) ∧ HeldN w (insI X k t) n 0 W1 :=
    ⟨_, rfl, below1 _ _, by rw [← hC.out]; exact Blk.new _ _ _ rfl, fun j hj => absurd hj (by omega)⟩
  rw [← hW1]
  replace hH : Hid (HeldN w (insI X k t) n 0 W1) := hH
  clear hW1 hC hmk
  go_loopw [8] (fun i wr => ∃ q : Nat, q ≤ k ∧ i = .int .i64 q ∧ Hid (HeldN w (insI X k t) n q wr)) (fun i _ => k - (intOf i).toNat)
  case atStart => exact ⟨0, Nat.zero_le _, rfl, hH⟩
  case round =>
    clear hH
    obtain ⟨q, hq, rfl, hH⟩ := hrel
    by_cases hqk : q < k
    · obtain ⟨b, o, rfl, hl, hj⟩ := hp.out (by omega)
      have a0 : wr.cell? ⟨b, o + q, none⟩ = some (.int .i64 (X q)) := by have := range_below (hj q (by omega)) hH.out.1 hl 0 _ rfl; simpa using this
      obtain ⟨tv, t1, t2⟩ := hH.out.cell (k := q) (by omega)
      have hq0 : (0 : Int) ≤ (q : Int) := by omega
      have hq1 : (q : Int) < (k : Int) := by omega
      have hq2 : (q : Int) < (n : Int) := by omega
      have hq3 : (q : Int) < (n : Int) + 1 := by omega
      clear hj hl
      go_wp2
      go_roundw
      case rel => exact ⟨q + 1, by omega, by go_num, hH.out.stored (by omega) (by simp [insI, hqk])⟩
      case measure => simp [intOf]; omega
    · have hqq : q = k := by omega
      subst hqq
      obtain ⟨tv, t1, t2⟩ := hH.out.cell (k := q) (by omega)
      have hq0 : (0 : Int) ≤ (q : Int) := by omega
      have hq3 : (q : Int) < (n : Int) + 1 := by omega
      go_upto_region 8 with fail
      obtain ⟨w2, hw2, H2⟩ : ∃ w2, w2 = wr.setCell ⟨w.heap.size, q, none⟩ (.int .i64 t) ∧ HeldN w (insI X q t) n (q + 1) w2 := ⟨_, rfl, hH.out.stored (by omega) (by simp [insI])⟩
      rw [← hw2]
      replace H2 : Hid (HeldN w (insI X q t) n (q + 1) w2) := H2
      clear hw2 hH hq3 t1 t2
      go_loopw [9] (fun i wr => ∃ r : Nat, q ≤ r ∧ r ≤ n ∧ i = .int .i64 r ∧ Hid (HeldN w (insI X q t) n (r + 1) wr)) (fun i _ => n - (intOf i).toNat)
      case atStart => exact ⟨q, Nat.le_refl _, hkn, rfl, H2⟩
      case round =>
        clear H2
        obtain ⟨r, hqr, hrn, rfl, hH⟩ := hrel
        by_cases hr : r < n
        · obtain ⟨b, o, rfl, hl, hj⟩ := hp.out (by omega)
          have a0 : wr.cell? ⟨b, o + r, none⟩ = some (.int .i64 (X r)) := by have := range_below (hj r (by omega)) hH.out.1 hl 0 _ rfl; simpa using this
          obtain ⟨tv, t1, t2⟩ := hH.out.cell (k := r + 1) (by omega)
          have hr0 : (0 : Int) ≤ (r : Int) := by omega
          have hr1 : (r : Int) < (n : Int) := by omega
          have hr2 : (r : Int) + 1 < (n : Int) + 1 := by omega
          clear hj hl
          go_wp2
          go_roundw
          case rel => exact ⟨r + 1, by omega, by omega, by go_num, hH.out.stored (by omega) (by rw [insI, if_neg (by omega), if_neg (by omega), Nat.add_sub_cancel])⟩
          case measure => simp [intOf]; omega
        · have hrr : r = n := by omega
          subst hrr
          go_wp2
          go_ret
          exact ⟨⟨_, rfl, RowsIn.of_new hH.out.2.1.lt hH.out.2.2⟩, hH.out.1⟩
end Go.Proofs.Qxb6608834a
