import Derived.Test.Qxb6608834aReq4
namespace Go.Proofs.Qxb6608834a
open Go.RowKit Go.Maps Go.WideMaps
set_option linter.unusedVariables false
set_option linter.unusedSimpArgs false

/-! ### the plain law -/
theorem maxM_le {Y : Nat → Int} {z : Int} : ∀ {k : Nat}, maxM Y k ≤ z ↔ 0 ≤ z ∧ ∀ j, j < k → Y j ≤ z
  | 0 => by simp [maxM]
  | k + 1 => by
    have h := maxM_le (Y := Y) (z := z) (k := k)
    simp only [maxM]
    constructor
    · intro h1
      have h2 := h.1 (by omega)
      exact ⟨h2.1, fun j hj => by
        by_cases hjk : j = k
        · subst hjk; omega
        · exact h2.2 j (by omega)⟩
    · rintro ⟨h1, h2⟩
      have := h.2 ⟨h1, fun j hj => h2 j (by omega)⟩
      have := h2 k (by omega)
      omega
theorem maxM_ins (Y : Nat → Int) (n j : Nat) (x : Int) (hj : j ≤ n) : maxM (insI Y j x) (n + 1) = max (maxM Y n) x := by
  apply Int.le_antisymm
  · rw [maxM_le]
    have h0 := (maxM_le (Y := Y) (z := maxM Y n) (k := n)).1 (Int.le_refl _)
    refine ⟨by omega, fun i hi => ?_⟩
    unfold insI
    split
    · have := h0.2 i (by omega); omega
    · split
      · omega
      · have := h0.2 (i - 1) (by omega); omega
  · have h0 := (maxM_le (Y := insI Y j x) (z := maxM (insI Y j x) (n + 1)) (k := n + 1)).1 (Int.le_refl _)
    have h1 : maxM Y n ≤ maxM (insI Y j x) (n + 1) := by
      rw [maxM_le]
      refine ⟨h0.1, fun i hi => ?_⟩
      by_cases hij : i < j
      · have := h0.2 i (by omega)
        rwa [insI, if_pos hij] at this
      · have := h0.2 (i + 1) (by omega)
        rwa [insI, if_neg (by omega), if_neg (by omega), Nat.add_sub_cancel] at this
    have h2 := h0.2 j (by omega)
    rw [insI, if_neg (by omega), if_pos rfl] at h2
    omega
theorem reqV_ins (X Y : Nat → Int) (n n' j : Nat) (x : Int) (hj : j ≤ n') : reqV X n (insI Y j x) (n' + 1) = max (reqV X n Y n') x := by
  unfold reqV
  rw [maxM_ins Y n' j x hj]
  omega
theorem NN_ins {Y : Nat → Int} {n j : Nat} {x : Int} (hj : j ≤ n) (h : NN Y n) (h0 : 0 ≤ x) (h1 : x ≤ mx) : NN (insI Y j x) (n + 1) := fun i hi => by
  unfold insI
  split
  · exact h i (by omega)
  · split
    · exact ⟨h0, h1⟩
    · exact h (i - 1) (by omega)
theorem I64_of_NN {Y : Nat → Int} {n : Nat} (h : NN Y n) : ∀ j, j < n → I64 (Y j) := fun j hj => by
  have := h j hj
  unfold mx at this
  exact ⟨by omega, by omega⟩
theorem PodR.below {w w' : World} {g : Nat} {X : Nat → Int} {n : Nat} {Y : Nat → Int} {n' : Nat} (h : PodR w g X n Y n') (hb : Below w.heap.size w w') : PodR w' g X n Y n' := ⟨Nat.lt_of_lt_of_le h.1 hb.size, h.2.1.below hb, h.2.2.below hb⟩

def LawP (w : World) (e : Ending) (w' : World) : Prop := e = .returned (.bool true) ∧ Below w.heap.size w w'
set_option maxRecDepth 100000 in
set_option maxHeartbeats 1000000 in
theorem law4_any (X Y : Nat → Int) (a a' : Option Addr) (n c n' c' : Nat) (x jj : Int) (w : World) (hn : n ≤ 9223372036854775807) (hn' : n' ≤ 9223372036854775807) (hp : RowsIn w 1 (fun j => iL (X j)) a n) (hp' : RowsIn w 1 (fun j => iL (Y j)) a' n')
    (hX : ∀ j, j < n → I64 (X j)) (hY : ∀ j, j < n' → I64 (Y j)) (hx : I64 x) (hjj : I64 jj) :
    Calls Try.prog 4 #[.slice a n c, .slice a' n' c', .int .i64 x, .int .i64 jj] w (LawP w) := by
  have h15 : Hid _ := bytes15_any a a' n c n' c' x jj w hn hn'
  replace hp : Hid (RowsIn w 1 (fun j => iL (X j)) a n) := hp
  replace hp' : Hid (RowsIn w 1 (fun j => iL (Y j)) a' n') := hp'
  replace hX : Hid (∀ j, j < n → I64 (X j)) := hX
  replace hY : Hid (∀ j, j < n' → I64 (Y j)) := hY
  obtain ⟨hx1, hx2⟩ := hx
  obtain ⟨hj1, hj2⟩ := hjj
  go_enter Try.func4, Try.ntmps4
  go_wp2_with fail
  refine Calls.mono h15.out ?_
  rintro e w1 ⟨he, rfl⟩
  rcases he with rfl | ⟨rfl, hnn, hnn'⟩
  · go_wp2
    go_ret
    exact ⟨rfl, Below.refl _ _⟩
  clear h15
  by_cases hbig : n ≤ 65536 ∧ n' ≤ 65536
  case neg =>
    go_wp2
    all_goals first
      | (go_ret; exact ⟨rfl, Below.refl _ _⟩)
      | skip
  obtain ⟨hb1, hb2⟩ := hbig
  have hb1' : (n : Int) ≤ 65536 := by omega
  have hb2' : (n' : Int) ≤ 65536 := by omega
  by_cases hj0 : jj < 0
  case pos =>
    go_wp2
    go_ret
    exact ⟨rfl, Below.refl _ _⟩
  obtain ⟨j, rfl⟩ : ∃ j : Nat, jj = j := ⟨jj.toNat, by omega⟩
  by_cases hjn : j ≤ n'
  case neg =>
    have hjn' : (n' : Int) < j := by omega
    go_wp2
    go_ret
    exact ⟨rfl, Below.refl _ _⟩
  have hjn' : (j : Int) ≤ n' := by omega
  by_cases hx0 : x < 0
  case pos =>
    go_wp2
    go_ret
    exact ⟨rfl, Below.refl _ _⟩
  have h9 : Hid _ := allNon_any X a n c w1 hnn hp.out
  have h9' : Hid _ := allNon_any Y a' n' c' w1 hnn' hp'.out
  go_wp2_with fail
  refine Calls.mono h9.out ?_
  rintro e w2 ⟨he, rfl⟩
  rcases he with rfl | ⟨rfl, hNX⟩
  · go_wp2
    go_ret
    exact ⟨rfl, Below.refl _ _⟩
  go_wp2_with fail
  refine Calls.mono h9'.out ?_
  rintro e w3 ⟨he, rfl⟩
  rcases he with rfl | ⟨rfl, hNY⟩
  · go_wp2
    go_ret
    exact ⟨rfl, Below.refl _ _⟩
  replace hNX : Hid (NN X n) := fun j hj => ⟨hNX j hj, (hX.out j hj).2⟩
  replace hNY : Hid (NN Y n') := fun j hj => ⟨hNY j hj, (hY.out j hj).2⟩
  clear h9 h9'
  go_wp2_with fail
  refine (insertAmt_any Y a' n' c' j x w3 (by omega) hjn hp'.out).mono ?_
  rintro e w4 ⟨⟨g, rfl, hr4⟩, hb4⟩
  replace hp : Hid (RowsIn w4 1 (fun j => iL (X j)) a n) := hp.out.below hb4
  replace hp' : Hid (RowsIn w4 1 (fun j => iL (Y j)) a' n') := hp'.out.below hb4
  replace hr4 : Hid (RowsIn w4 1 (fun i => iL (insI Y j x i)) (some ⟨g, 0, none⟩) (n' + 1)) := hr4
  replace hb4 : Hid (Below w3.heap.size w3 w4) := hb4
  go_wp2_with fail
  refine (podOf_any X Y a a' n c n' c' w4 (by omega) (by omega) hp.out hp'.out hX.out hY.out).mono ?_
  rintro e w5 ⟨g5, rfl, hpod, hb5⟩
  have h10 : Hid _ := reqCPU_any g5 X n Y n' w5 (by omega) (by omega) hpod hNX.out hNY.out
  replace hp : Hid (RowsIn w5 1 (fun j => iL (X j)) a n) := hp.out.below hb5
  replace hr4 : Hid (RowsIn w5 1 (fun i => iL (insI Y j x i)) (some ⟨g, 0, none⟩) (n' + 1)) := hr4.out.below hb5
  replace hb5 : Hid (Below w3.heap.size w3 w5) := hb4.out.trans (hb5.mono hb4.out.size)
  clear hpod hb4
  go_wp2_with fail
  refine Calls.mono h10.out ?_
  rintro e w6 ⟨rfl, rfl⟩
  have hNI : Hid (NN (insI Y j x) (n' + 1)) := NN_ins hjn hNY.out (by omega) hx2
  go_wp2_with fail
  refine (podOf_any X (insI Y j x) a (some ⟨g, 0, none⟩) n c (n' + 1) (n' + 1) w6 (by omega) (by omega) hp.out hr4.out hX.out (I64_of_NN hNI.out)).mono ?_
  rintro e w7 ⟨g7, rfl, hpod, hb7⟩
  have h10' : Hid _ := reqCPU_any g7 X n (insI Y j x) (n' + 1) w7 (by omega) (by omega) hpod hNX.out hNI.out
  replace hb7 : Hid (Below w3.heap.size w3 w7) := hb5.out.trans (hb7.mono hb5.out.size)
  clear hpod hb5 h10
  go_wp2_with fail
  refine Calls.mono h10'.out ?_
  rintro e w8 ⟨rfl, rfl⟩
  rw [reqV_ins X Y n n' j x hjn]
  obtain ⟨r, hr⟩ : ∃ r, r = reqV X n Y n' := ⟨_, rfl⟩
  rw [← hr]
  clear hr h10'
  go_wp2_with fail
  refine (lawMax_any r x w8).mono ?_
  rintro e w9 ⟨rfl, rfl⟩
  obtain ⟨s, hs⟩ : ∃ s, s = max r x := ⟨_, rfl⟩
  rw [← hs]
  clear hs
  go_wp2
  go_ret
  exact ⟨rfl, hb7.out⟩
end Go.Proofs.Qxb6608834a
