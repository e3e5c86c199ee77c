import Derived.Test.Qxb6608834aReq5
namespace Go.Proofs.Qxb6608834a
open Go.RowKit Go.Maps Go.WideMaps
set_option linter.unusedVariables false
set_option linter.unusedSimpArgs false

/-! ### lawSatAdd, lawIsGreatestOrZero -/
theorem satAdd_any (a b : Int) (ha : 0 ≤ a) (ha' : a ≤ mx) (hb : 0 ≤ b) (hb' : b ≤ mx) (w : World) : Calls Try.prog 13 #[.int .i64 a, .int .i64 b] w fun e w' => e = .returned (.int .i64 (min (a + b) mx)) ∧ w' = w := by
  unfold mx at *
  by_cases h : a + b ≤ 9223372036854775807
  · rw [show min (a + b) 9223372036854775807 = a + b by omega]
    go_enter Try.func13, Try.ntmps13
    go_wp2
    all_goals go_ret
    all_goals exact ⟨ret_int (by omega), rfl⟩
  · rw [show min (a + b) 9223372036854775807 = 9223372036854775807 by omega]
    go_enter Try.func13, Try.ntmps13
    go_wp2
    all_goals go_ret
    all_goals exact ⟨ret_int (by omega), rfl⟩

set_option maxHeartbeats 400000 in
theorem greatest_any (m : Int) (Y : Nat → Int) (a : Option Addr) (n c : Nat) (w : World) (hn : n ≤ 1048576) (hp : RowsIn w 1 (fun j => iL (Y j)) a n) (hm0 : 0 ≤ m) (hall : ∀ j, j < n → Y j ≤ m) (hex : m = 0 ∨ ∃ j, j < n ∧ Y j = m) :
    Calls Try.prog 14 #[.int .i64 m, .slice a n c] w fun e w' => e = .returned (.bool true) ∧ w' = w := by
  replace hp : Hid (RowsIn w 1 (fun j => iL (Y j)) a n) := hp
  replace hall : Hid (∀ j, j < n → Y j ≤ m) := hall
  replace hex : Hid (m = 0 ∨ ∃ j, j < n ∧ Y j = m) := hex
  go_enter Try.func14, Try.ntmps14
  go_upto_region 5 with fail
  go_loopw [5, 6] (fun f i wr => ∃ (k : Nat) (v : Bool), k ≤ n ∧ i = .int .i64 k ∧ f = .bool v ∧ Hid (v = true ↔ (m = 0 ∨ ∃ j, j < k ∧ Y j = m)) ∧ wr = w) (fun _ i _ => n - (intOf i).toNat)
  case atStart => exact ⟨0, decide (m = 0), Nat.zero_le _, rfl, by first | rfl | simp, by show (decide (m = 0) = true ↔ _); simp, rfl⟩
  case round =>
    obtain ⟨k, v, hk, rfl, rfl, hv, rfl⟩ := hrel
    by_cases hkn : k < n
    · obtain ⟨b, o, rfl, hl, hj⟩ := hp.out (by omega)
      have a0 : wr.cell? ⟨b, o + k, none⟩ = some (.int .i64 (Y k)) := by have := hj k hkn 0 _ rfl; simpa using this
      have hk0 : (0 : Int) ≤ (k : Int) := by omega
      have hk1 : (k : Int) < (n : Int) := by omega
      have hle : Y k ≤ m := hall.out k hkn
      clear hj hl
      by_cases hx : Y k = m
      · have hv2 : Hid (true = true ↔ (m = 0 ∨ ∃ j, j < k + 1 ∧ Y j = m)) := ⟨fun _ => .inr ⟨k, by omega, hx⟩, fun _ => rfl⟩
        go_wp2
        go_roundw
        case rel => exact ⟨k + 1, true, by omega, by go_num, rfl, hv2, trivial⟩
        case measure => simp [intOf]; omega
      · have hv2 : Hid (v = true ↔ (m = 0 ∨ ∃ j, j < k + 1 ∧ Y j = m)) := by
          refine hv.out.trans ⟨fun h => ?_, fun h => ?_⟩
          · rcases h with h | ⟨j, h1, h2⟩
            · exact .inl h
            · exact .inr ⟨j, by omega, h2⟩
          · rcases h with h | ⟨j, h1, h2⟩
            · exact .inl h
            · by_cases hjk : j = k
              · subst hjk; exact absurd h2 hx
              · exact .inr ⟨j, by omega, h2⟩
        go_wp2
        go_roundw
        case rel => exact ⟨k + 1, v, by omega, by go_num, rfl, hv2, trivial⟩
        case measure => simp [intOf]; omega
    · have hkk : k = n := by omega
      subst hkk
      have hvt : v = true := hv.out.2 hex.out
      subst hvt
      go_wp2
      go_ret
      exact ⟨rfl, rfl⟩

/-! ### plain laws -/
theorem maxM_att (Y : Nat → Int) : ∀ n, maxM Y n = 0 ∨ ∃ j, j < n ∧ Y j = maxM Y n
  | 0 => .inl rfl
  | n + 1 => by
    by_cases h : Y n ≤ maxM Y n
    · have e : maxM Y (n + 1) = maxM Y n := by simp only [maxM]; omega
      rw [e]
      rcases maxM_att Y n with h1 | ⟨j, h1, h2⟩
      · exact .inl h1
      · exact .inr ⟨j, by omega, h2⟩
    · have e : maxM Y (n + 1) = Y n := by simp only [maxM]; omega
      exact .inr ⟨n, by omega, e.symm⟩
theorem sumS_cut (X : Nat → Int) (k : Nat) : ∀ m, NN X (k + m) → sumS X (k + m) = min (sumS X k + sumS (fun j => X (k + j)) m) mx
  | 0, h => by
    have := (sumS_lo (X := X) (k := k) (fun j hj => (h j (by omega)).1)).2
    simp only [sumS, Nat.add_zero]
    omega
  | m + 1, h => by
    have ih := sumS_cut X k m (fun j hj => h j (by omega))
    have h1 := (h (k + m) (by omega)).1
    have h2 := (sumS_lo (X := X) (k := k) (fun j hj => (h j (by omega)).1)).1
    have h3 := (sumS_lo (X := fun j => X (k + j)) (k := m) (fun j hj => (h (k + j) (by omega)).1)).1
    rw [← Nat.add_assoc]
    simp only [sumS]
    rw [ih]
    omega
theorem reqV_left {X Y : Nat → Int} {n : Nat} (h : NN X n) : reqV X n Y 0 = sumS X n := by
  have := (sumS_lo (X := X) (k := n) (fun j hj => (h j hj).1)).1
  simp only [reqV, maxM]
  omega
theorem reqV_right {X Y : Nat → Int} {n : Nat} (h : NN Y n) : reqV X 0 Y n = maxM Y n := by
  have := (maxM_lo (Y := Y) (k := n) (fun j hj => (h j hj).2)).1
  simp only [reqV, sumS]
  omega
theorem reqV_cut {X Y : Nat → Int} {n n' k : Nat} (hk : k ≤ n) (h : NN X n) (h' : NN Y n') : reqV X n Y n' = max (min (sumS X k + sumS (fun j => X (k + j)) (n - k)) mx) (maxM Y n') := by
  have := sumS_cut X k (n - k) (by rw [show k + (n - k) = n by omega]; exact h)
  rw [show k + (n - k) = n by omega] at this
  rw [reqV, this]
theorem reqV_one {X Y : Nat → Int} {k : Nat} (h : 0 ≤ X k ∧ X k ≤ mx) : reqV (fun j => X (k + j)) 1 Y 0 = X k := by
  simp only [reqV, maxM, sumS, Nat.add_zero]
  omega
theorem NN_cut {X : Nat → Int} {n k : Nat} (h : NN X n) : NN (fun j => X (k + j)) (n - k) := fun j hj => h (k + j) (by omega)
theorem NN_take {X : Nat → Int} {n k : Nat} (h : NN X n) (hk : k ≤ n) : NN X k := fun j hj => h j (by omega)

/-! ### cuts of a []int64 -/
theorem size_of22 (w : World) : (sizeOf (Try.prog.elem 22)).run Try.prog w = .ok 1 w := by
  have : Try.prog.elem 22 = 2 := by kernel_rfl
  rw [this]
  cases hi : Try.prog.info? 2 with
  | none => have := info2; rw [hi] at this; cases this
  | some i => rw [run_sizeOf (h := hi), show Try.prog.cellsOf 2 = 1 by kernel_rfl]
theorem und22 : Try.prog.underlying 22 = some (.slice (Try.prog.elem 22)) := by
  rw [show Try.prog.elem 22 = 2 by kernel_rfl]; exact Try.underlying22
theorem cut_left (a : Option Addr) (n c k : Nat) (hk : k ≤ n) (hc : n ≤ c) :
    ∃ a', (∀ w, (Instr.sliceAt 22 (.slice a n c) none (some (.int .i64 k)) none).run Try.prog w = .ok (.slice a' k c) w) ∧ (∀ (w0 : World) (L : Nat → List Value), RowsIn w0 1 L a n → RowsIn w0 1 L a' k) := by
  refine ⟨if c = 0 then a else a.map (·.add (0 * 1)), fun w => ?_, ?_⟩
  · rw [run_sliceAt_slice (h := und22), run_slice_h (ht := und22) (h0 := by omega) (h2 := by omega)]
    simp [size_of22, sliced]
  · intro w0 L hp
    have : (if c = 0 then a else a.map (·.add (0 * 1))) = a := by
      split
      · rfl
      · cases a <;> simp [Addr.add]
    rw [this]
    exact hp.take hk
theorem cut_right (a : Option Addr) (n c k : Nat) (hk : k ≤ n) (hc : n ≤ c) :
    ∃ a', (∀ w, (Instr.sliceAt 22 (.slice a n c) (some (.int .i64 k)) none none).run Try.prog w = .ok (.slice a' (n - k) (c - k)) w) ∧ (∀ (w0 : World) (L : Nat → List Value), RowsIn w0 1 L a n → RowsIn w0 1 (fun j => L (k + j)) a' (n - k)) := by
  refine ⟨if c = k then a else a.map (·.add (k * 1)), fun w => ?_, ?_⟩
  · rw [run_sliceAt_slice (h := und22), run_slice_l (ht := und22) (h0 := by omega) (h1 := by omega)]
    simp [size_of22, sliced]
  · intro w0 L hp hpos
    obtain ⟨b, o, rfl, hl, hj⟩ := hp (by omega)
    rw [if_neg (by omega)]
    have := RowsIn.drop (k := k) hp hpos
    simpa only [Option.map_some, Addr.add_mid] using this
theorem cut_one (a : Option Addr) (n c k : Nat) (hk : k < n) (hc : n ≤ c) :
    ∃ a', (∀ w, (Instr.sliceAt 22 (.slice a n c) (some (.int .i64 k)) (some (.int .i64 ((k : Int) + 1))) none).run Try.prog w = .ok (.slice a' 1 (c - k)) w) ∧ (∀ (w0 : World) (L : Nat → List Value), RowsIn w0 1 L a n → RowsIn w0 1 (fun j => L (k + j)) a' 1) := by
  refine ⟨if c = k then a else a.map (·.add (k * 1)), fun w => ?_, ?_⟩
  · rw [run_sliceAt_slice (h := und22), run_slice_lh (ht := und22) (h0 := by omega) (h1 := by omega) (h2 := by omega)]
    have e : ((k : Int) + 1).toNat = k + 1 := by omega
    simp [size_of22, sliced, e]
  · intro w0 L hp hpos
    obtain ⟨b, o, rfl, hl, hj⟩ := hp (by omega)
    rw [if_neg (by omega)]
    have := (RowsIn.drop (k := k) hp).take (k := 1) (by omega) hpos
    simpa only [Option.map_some, Addr.add_mid] using this
end Go.Proofs.Qxb6608834a
