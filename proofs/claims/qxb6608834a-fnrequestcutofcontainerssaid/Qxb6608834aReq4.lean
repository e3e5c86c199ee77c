import Derived.Test.Qxb6608834aReq3
namespace Go.Proofs.Qxb6608834a
open Go.RowKit Go.Maps Go.WideMaps
set_option linter.unusedVariables false
set_option linter.unusedSimpArgs false

/-! ### Pod.Request -/
def sumS (X : Nat → Int) : Nat → Int
  | 0 => 0
  | k + 1 => min (sumS X k + X k) mx
def maxM (Y : Nat → Int) : Nat → Int
  | 0 => 0
  | k + 1 => max (maxM Y k) (Y k)
theorem sumS_lo {X : Nat → Int} : ∀ {k : Nat}, (∀ j, j < k → 0 ≤ X j) → 0 ≤ sumS X k ∧ sumS X k ≤ mx
  | 0, _ => by simp [sumS, mx]
  | k + 1, h => by
    have h1 := sumS_lo (X := X) (k := k) (fun j hj => h j (by omega))
    have h2 := h k (by omega)
    simp only [sumS]
    unfold mx at *
    omega
theorem maxM_lo {Y : Nat → Int} : ∀ {k : Nat}, (∀ j, j < k → Y j ≤ mx) → 0 ≤ maxM Y k ∧ maxM Y k ≤ mx
  | 0, _ => by simp [maxM, mx]
  | k + 1, h => by
    have h1 := maxM_lo (Y := Y) (k := k) (fun j hj => h j (by omega))
    have h2 := h k (by omega)
    simp only [maxM]
    omega
def reqV (X : Nat → Int) (n : Nat) (Y : Nat → Int) (n' : Nat) : Int := max (sumS X n) (maxM Y n')
def NN (X : Nat → Int) (n : Nat) : Prop := ∀ j, j < n → 0 ≤ X j ∧ X j ≤ mx

set_option maxRecDepth 100000 in
set_option maxHeartbeats 1000000 in
theorem request_any (gp : Nat) (X : Nat → Int) (n : Nat) (Y : Nat → Int) (n' : Nat) (w : World) (hn : n ≤ 1048577) (hn' : n' ≤ 1048577) (hp : PodR w gp X n Y n') (hX : NN X n) (hY : NN Y n') :
    Calls Try.prog 33 #[.pointer (some ⟨gp, 0, none⟩), .func (.func 34) #[] #[]] w fun e w' => e = .returned (.int .i64 (reqV X n Y n')) ∧ w' = w := by
  obtain ⟨hz, ⟨ac, c14, hG⟩, ⟨ai, c15, hG'⟩⟩ := hp
  replace hG : Hid (0 < n → ∃ b o, ac = some ⟨b, o, none⟩ ∧ b < w.heap.size ∧ b ≠ gp ∧ ∀ j, j < n → ConAt w b (o + j * 4) (X j)) := hG
  replace hG' : Hid (0 < n' → ∃ b o, ai = some ⟨b, o, none⟩ ∧ b < w.heap.size ∧ b ≠ gp ∧ ∀ j, j < n' → ConAt w b (o + j * 4) (Y j)) := hG'
  replace hX : Hid (NN X n) := hX
  replace hY : Hid (NN Y n') := hY
  go_enter Try.func33, Try.ntmps33
  go_upto_region 3 with fail
  go_loopw [5, 14] (fun s i wr => ∃ (k : Nat) (v : Int), k ≤ n ∧ i = .int .i64 k ∧ s = .int .i64 v ∧ Hid (v = sumS X k) ∧ wr = w) (fun _ i _ => n - (intOf i).toNat)
  case atStart => exact ⟨0, 0, Nat.zero_le _, rfl, rfl, rfl, rfl⟩
  case round =>
    obtain ⟨k, v, hk, rfl, rfl, hv, rfl⟩ := hrel
    by_cases hkn : k < n
    · obtain ⟨b, o, rfl, hl, _, hj⟩ := hG.out (by omega)
      obtain ⟨m, hc, hm⟩ := hj k hkn
      have h34 : Hid _ := zzcpu_any b (o + k * 4) m (X k) wr hc hm
      have hb := sumS_lo (X := X) (k := k) (fun j hj => (hX.out j (by omega)).1)
      rw [← hv.out] at hb
      have hxk := hX.out k hkn
      have h37 : Hid _ := addSat_any v (X k) hb.1 hb.2 hxk.1 hxk.2 wr
      have hk0 : (0 : Int) ≤ (k : Int) := by omega
      have hk1 : (k : Int) < (n : Int) := by omega
      clear hj hl hm hc hb hxk
      go_wp2_with fail
      refine Calls.mono h34.out ?_
      rintro e w1 ⟨rfl, rfl⟩
      go_wp2_with fail
      refine Calls.mono h37.out ?_
      rintro e w2 ⟨rfl, rfl⟩
      obtain ⟨v2, hv2⟩ : ∃ v2, v2 = min (v + X k) mx := ⟨_, rfl⟩
      rw [← hv2]
      have hv3 : Hid (v2 = sumS X (k + 1)) := by
        have e := hv.out
        subst hv2
        subst e
        rfl
      clear hv2 h37 h34
      go_wp2
      go_roundw
      case rel => exact ⟨k + 1, v2, by omega, by go_num, rfl, hv3, trivial⟩
      case measure => simp [intOf]; omega
    · have hkk : k = n := by omega
      subst hkk
      go_upto_region 8 with fail
      go_loopw [6, 33] (fun s i wr' => ∃ (q : Nat) (u : Int), q ≤ n' ∧ i = .int .i64 q ∧ s = .int .i64 u ∧ Hid (u = maxM Y q) ∧ wr' = wr) (fun _ i _ => n' - (intOf i).toNat)
      case atStart => exact ⟨0, 0, Nat.zero_le _, rfl, rfl, rfl, rfl⟩
      case round =>
        obtain ⟨q, u, hq, rfl, rfl, hu, rfl⟩ := hrel
        by_cases hqn : q < n'
        · obtain ⟨b, o, rfl, hl, _, hj⟩ := hG'.out (by omega)
          obtain ⟨m, hc, hm⟩ := hj q hqn
          have h34 : Hid _ := zzcpu_any b (o + q * 4) m (Y q) _ hc hm
          have hq0 : (0 : Int) ≤ (q : Int) := by omega
          have hq1 : (q : Int) < (n' : Int) := by omega
          clear hj hl hm hc
          go_wp2_with fail
          refine Calls.mono h34.out ?_
          rintro e w1 ⟨rfl, rfl⟩
          go_wp2
          have hu2 : Hid ((if u < Y q then Y q else u) = maxM Y (q + 1)) := by
            have e := hu.out
            show _ = max (maxM Y q) (Y q)
            rw [← e]
            split <;> omega
          go_roundw
          case rel => exact ⟨q + 1, _, by omega, by go_num, rfl, hu2, trivial⟩
          case measure => simp [intOf]; omega
        · have hqq : q = n' := by omega
          subst hqq
          go_wp2
          all_goals go_ret
          all_goals exact ⟨ret_int (by have e1 := hv.out; have e2 := hu.out; unfold reqV; rw [← e1, ← e2]; omega), rfl⟩
theorem reqCPU_any (gp : Nat) (X : Nat → Int) (n : Nat) (Y : Nat → Int) (n' : Nat) (w : World) (hn : n ≤ 1048577) (hn' : n' ≤ 1048577) (hp : PodR w gp X n Y n') (hX : NN X n) (hY : NN Y n') :
    Calls Try.prog 10 #[.pointer (some ⟨gp, 0, none⟩)] w fun e w' => e = .returned (.int .i64 (reqV X n Y n')) ∧ w' = w := by
  have h := request_any gp X n Y n' w hn hn' hp hX hY
  replace h : Hid _ := h
  clear hp
  go_enter Try.func10, Try.ntmps10
  go_wp2_with fail
  refine Calls.mono h.out ?_
  rintro e w1 ⟨rfl, rfl⟩
  go_wp2
  go_ret
  exact ⟨rfl, rfl⟩
end Go.Proofs.Qxb6608834a
