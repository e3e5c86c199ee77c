import Derived.Test.Qxb6608834aReq6
namespace Go.Proofs.Qxb6608834a
open Go.RowKit Go.Maps Go.WideMaps
set_option linter.unusedVariables false
set_option linter.unusedSimpArgs false

set_option maxRecDepth 100000 in
set_option maxHeartbeats 2000000 in
theorem law3_any (X Y : Nat → Int) (a a' : Option Addr) (n c n' c' : Nat) (kk : Int) (w : World) (hn : n ≤ 9223372036854775807) (hn' : n' ≤ 9223372036854775807) (hnc : n ≤ c) (hp : RowsIn w 1 (fun j => iL (X j)) a n) (hp' : RowsIn w 1 (fun j => iL (Y j)) a' n')
    (hX : ∀ j, j < n → I64 (X j)) (hY : ∀ j, j < n' → I64 (Y j)) (hkk : I64 kk) :
    Calls Try.prog 3 #[.slice a n c, .slice a' n' c', .int .i64 kk] w (LawP w) := by
  have h8 : Hid _ := bytes8_any a a' n c n' c' kk w hn hn'
  replace hp : Hid (RowsIn w 1 (fun j => iL (X j)) a n) := hp
  replace hp' : Hid (RowsIn w 1 (fun j => iL (Y j)) a' n') := hp'
  replace hX : Hid (∀ j, j < n → I64 (X j)) := hX
  replace hY : Hid (∀ j, j < n' → I64 (Y j)) := hY
  obtain ⟨hj1, hj2⟩ := hkk
  go_enter Try.func3, Try.ntmps3
  go_wp2_with fail
  refine Calls.mono h8.out ?_
  rintro e w1 ⟨he, rfl⟩
  rcases he with rfl | ⟨rfl, hnn, hnn'⟩
  · go_wp2
    go_ret
    exact ⟨rfl, Below.refl _ _⟩
  clear h8
  by_cases hbig : n ≤ 65536 ∧ n' ≤ 65536
  case neg =>
    go_wp2
    all_goals (go_ret; exact ⟨rfl, Below.refl _ _⟩)
  obtain ⟨hb1, hb2⟩ := hbig
  have hb1' : (n : Int) ≤ 65536 := by omega
  have hb2' : (n' : Int) ≤ 65536 := by omega
  by_cases hk0 : kk < 0
  case pos =>
    go_wp2
    go_ret
    exact ⟨rfl, Below.refl _ _⟩
  obtain ⟨k, rfl⟩ : ∃ k : Nat, kk = k := ⟨kk.toNat, by omega⟩
  by_cases hkn : k ≤ n
  case neg =>
    have hkn' : (n : Int) < k := by omega
    go_wp2
    go_ret
    exact ⟨rfl, Below.refl _ _⟩
  have hkn' : (k : Int) ≤ n := by omega
  have h9 : Hid _ := allNon_any X a n c w1 hnn hp.out
  have h9' : Hid _ := allNon_any Y a' n' c' w1 hnn' hp'.out
  go_wp2_with fail
  refine Calls.mono h9.out ?_
  rintro e w2 ⟨he, rfl⟩
  rcases he with rfl | ⟨rfl, hNX⟩
  · go_wp2
    go_ret
    exact ⟨rfl, Below.refl _ _⟩
  go_wp2_with fail
  refine Calls.mono h9'.out ?_
  rintro e w3 ⟨he, rfl⟩
  rcases he with rfl | ⟨rfl, hNY⟩
  · go_wp2
    go_ret
    exact ⟨rfl, Below.refl _ _⟩
  replace hNX : Hid (NN X n) := fun j hj => ⟨hNX j hj, (hX.out j hj).2⟩
  replace hNY : Hid (NN Y n') := fun j hj => ⟨hNY j hj, (hY.out j hj).2⟩
  clear h9 h9'
  obtain ⟨aL, hsL, hpL⟩ := cut_left a n c k hkn hnc
  obtain ⟨aR, hsR, hpR⟩ := cut_right a n c k hkn hnc
  replace hpL : Hid (∀ (w0 : World) (L : Nat → List Value), RowsIn w0 1 L a n → RowsIn w0 1 L aL k) := hpL
  replace hpR : Hid (∀ (w0 : World) (L : Nat → List Value), RowsIn w0 1 L a n → RowsIn w0 1 (fun j => L (k + j)) aR (n - k)) := hpR
  have hB : Hid (Below w3.heap.size w3 w3) := Below.refl _ _
  obtain ⟨Wq, hWq⟩ : ∃ Wq, Wq = w3 := ⟨_, rfl⟩
  rw [← hWq] at hp hp' hB ⊢
  rw [hWq] at hB
  replace hB : Hid (Below w3.heap.size w3 Wq) := by rw [hWq]; exact hB
  clear hWq
  go_wp2_with fail
  refine (podOf_any X Y a a' n c n' c' Wq (by omega) (by omega) hp.out hp'.out (I64_of_NN hNX.out) (I64_of_NN hNY.out)).mono ?_
  rintro e v1 ⟨g1, rfl, hpod, hb1⟩
  have h10 : Hid _ := reqCPU_any g1 X n Y n' v1 (by omega) (by omega) hpod hNX.out hNY.out
  replace hp : Hid (RowsIn v1 1 (fun j => iL (X j)) a n) := hp.out.below hb1
  replace hp' : Hid (RowsIn v1 1 (fun j => iL (Y j)) a' n') := hp'.out.below hb1
  replace hB : Hid (Below w3.heap.size w3 v1) := hB.out.trans (hb1.mono hB.out.size)
  clear hpod hb1
  go_wp2_with fail
  refine Calls.mono h10.out ?_
  rintro e u1 ⟨rfl, rfl⟩
  clear h10
  obtain ⟨rw, hrw⟩ : ∃ r, r = reqV X n Y n' := ⟨_, rfl⟩
  rw [← hrw]
  replace hrw : Hid (rw = reqV X n Y n') := hrw
  go_wp2_with fail
  refine (podOf_any X (fun _ => (0 : Int)) aL none k c 0 0 u1 (by omega) (by omega) (hpL.out _ _ hp.out) (fun h => absurd h (by omega)) (I64_of_NN (NN_take hNX.out hkn)) (I64_of_NN (fun j hj => absurd hj (by omega)))).mono ?_
  rintro e v2 ⟨g2, rfl, hpod, hb2⟩
  have h10 : Hid _ := reqCPU_any g2 X k (fun _ => (0 : Int)) 0 v2 (by omega) (by omega) hpod (NN_take hNX.out hkn) (fun j hj => absurd hj (by omega))
  replace hp : Hid (RowsIn v2 1 (fun j => iL (X j)) a n) := hp.out.below hb2
  replace hp' : Hid (RowsIn v2 1 (fun j => iL (Y j)) a' n') := hp'.out.below hb2
  replace hB : Hid (Below w3.heap.size w3 v2) := hB.out.trans (hb2.mono hB.out.size)
  clear hpod hb2
  go_wp2_with fail
  refine Calls.mono h10.out ?_
  rintro e u2 ⟨rfl, rfl⟩
  clear h10
  obtain ⟨rl, hrl⟩ : ∃ r, r = reqV X k (fun _ => (0 : Int)) 0 := ⟨_, rfl⟩
  rw [← hrl]
  replace hrl : Hid (rl = reqV X k (fun _ => (0 : Int)) 0) := hrl
  go_wp2_with fail
  refine (podOf_any (fun j => X (k + j)) (fun _ => (0 : Int)) aR none (n - k) (c - k) 0 0 u2 (by omega) (by omega) (hpR.out _ (fun j => iL (X j)) hp.out) (fun h => absurd h (by omega)) (I64_of_NN (NN_cut hNX.out)) (I64_of_NN (fun j hj => absurd hj (by omega)))).mono ?_
  rintro e v3 ⟨g3, rfl, hpod, hb3⟩
  have h10 : Hid _ := reqCPU_any g3 (fun j => X (k + j)) (n - k) (fun _ => (0 : Int)) 0 v3 (by omega) (by omega) hpod (NN_cut hNX.out) (fun j hj => absurd hj (by omega))
  replace hp : Hid (RowsIn v3 1 (fun j => iL (X j)) a n) := hp.out.below hb3
  replace hp' : Hid (RowsIn v3 1 (fun j => iL (Y j)) a' n') := hp'.out.below hb3
  replace hB : Hid (Below w3.heap.size w3 v3) := hB.out.trans (hb3.mono hB.out.size)
  clear hpod hb3
  go_wp2_with fail
  refine Calls.mono h10.out ?_
  rintro e u3 ⟨rfl, rfl⟩
  clear h10
  obtain ⟨rr, hrr⟩ : ∃ r, r = reqV (fun j => X (k + j)) (n - k) (fun _ => (0 : Int)) 0 := ⟨_, rfl⟩
  rw [← hrr]
  replace hrr : Hid (rr = reqV (fun j => X (k + j)) (n - k) (fun _ => (0 : Int)) 0) := hrr
  go_wp2_with fail
  refine (podOf_any (fun _ => (0 : Int)) Y none a' 0 0 n' c' u3 (by omega) (by omega) (fun h => absurd h (by omega)) hp'.out (I64_of_NN (fun j hj => absurd hj (by omega))) (I64_of_NN hNY.out)).mono ?_
  rintro e v4 ⟨g4, rfl, hpod, hb4⟩
  have h10 : Hid _ := reqCPU_any g4 (fun _ => (0 : Int)) 0 Y n' v4 (by omega) (by omega) hpod (fun j hj => absurd hj (by omega)) hNY.out
  replace hp : Hid (RowsIn v4 1 (fun j => iL (X j)) a n) := hp.out.below hb4
  replace hp' : Hid (RowsIn v4 1 (fun j => iL (Y j)) a' n') := hp'.out.below hb4
  replace hB : Hid (Below w3.heap.size w3 v4) := hB.out.trans (hb4.mono hB.out.size)
  clear hpod hb4
  go_wp2_with fail
  refine Calls.mono h10.out ?_
  rintro e u4 ⟨rfl, rfl⟩
  clear h10
  obtain ⟨ri, hri⟩ : ∃ r, r = reqV (fun _ => (0 : Int)) 0 Y n' := ⟨_, rfl⟩
  rw [← hri]
  replace hri : Hid (ri = reqV (fun _ => (0 : Int)) 0 Y n') := hri
  have el : rl = sumS X k := hrl.out.trans (reqV_left (NN_take hNX.out hkn))
  have er : rr = sumS (fun j => X (k + j)) (n - k) := hrr.out.trans (reqV_left (NN_cut hNX.out))
  have ei : ri = maxM Y n' := hri.out.trans (reqV_right hNY.out)
  have ew : rw = max (min (rl + rr) mx) ri := by rw [hrw.out, reqV_cut hkn hNX.out hNY.out, ← el, ← er, ← ei]
  have bl := sumS_lo (X := X) (k := k) (fun j hj => (hNX.out j (by omega)).1)
  have br := sumS_lo (X := fun j => X (k + j)) (k := n - k) (fun j hj => (hNX.out (k + j) (by omega)).1)
  have bi := maxM_lo (Y := Y) (k := n') (fun j hj => (hNY.out j hj).2)
  rw [← el] at bl
  rw [← er] at br
  have hall : Hid (∀ j, j < n' → Y j ≤ ri) := by rw [ei]; exact (maxM_le.1 (Int.le_refl _)).2
  have hex : Hid (ri = 0 ∨ ∃ j, j < n' ∧ Y j = ri) := by rw [ei]; exact maxM_att Y n'
  rw [← ei] at bi
  replace ew : Hid (rw = max (min (rl + rr) mx) ri) := ew
  clear hrw hrl hrr hri el er ei
  have h13 : Hid _ := satAdd_any rl rr bl.1 bl.2 br.1 br.2 u4
  go_wp2_with fail
  refine Calls.mono h13.out ?_
  rintro e u5 ⟨rfl, rfl⟩
  clear h13
  obtain ⟨t1, ht1⟩ : ∃ t, t = min (rl + rr) mx := ⟨_, rfl⟩
  rw [← ht1] at ew ⊢
  clear ht1
  go_wp2_with fail
  refine (lawMax_any t1 ri _).mono ?_
  rintro e u6 ⟨rfl, rfl⟩
  rw [← ew.out]
  have h14 : Hid _ := greatest_any ri Y a' n' c' u6 hnn' hp'.out bi.1 hall.out hex.out
  clear bl br hall hex ew
  go_wp2_with fail
  refine Calls.mono h14.out ?_
  rintro e u7 ⟨rfl, rfl⟩
  clear h14 bi
  by_cases hkl : k < n
  case neg =>
    have hkl' : ¬ (k : Int) < n := by omega
    go_wp2
    go_ret
    exact ⟨rfl, hB.out⟩
  have hkl' : (k : Int) < n := by omega
  obtain ⟨aO, hsO, hpO⟩ := cut_one a n c k hkl hnc
  replace hpO : Hid (∀ (w0 : World) (L : Nat → List Value), RowsIn w0 1 L a n → RowsIn w0 1 (fun j => L (k + j)) aO 1) := hpO
  replace hsO : Hid (∀ w, (Instr.sliceAt 22 (.slice a n c) (some (.int .i64 k)) (some (.int .i64 ((k : Int) + 1))) none).run Try.prog w = .ok (.slice aO 1 (c - k)) w) := hsO
  obtain ⟨b, o, rfl, hl, hj⟩ := hp.out (by omega)
  have c00 : u7.cell? ⟨b, o + k, none⟩ = some (.int .i64 (X k)) := by have := hj k hkl 0 _ rfl; simpa using this
  have c0 : Hid (u7.cell? ⟨b, o + k, none⟩ = some (.int .i64 (X k))) := c00
  clear c00
  replace hl : Hid (b < u7.heap.size) := hl
  clear hj
  go_upto_region 18 with fail
  refine wp_region_held_drew (S := fun w' => Below u7.heap.size u7 w') (by kernel_rfl) (Below.refl _ _).drew (fun hHeld => ?_)
  refine wpAnyH_takeD (i := 0) 72 (v := (.slice (some ⟨b, o, none⟩) n c)) rfl rfl (by kernel_rfl) (by kernel_rfl) (by kernel_rfl) (fun _ _ _ h => h) (Or.inl ⟨by rfl, fun _ _ => rfl⟩) hHeld ?_
  simp only [List.set_cons_zero, List.set_cons_succ]
  refine wpAnyH_takeD (i := 1) 73 (v := (.int .i64 k)) rfl rfl (by kernel_rfl) (by kernel_rfl) (by kernel_rfl) (fun _ _ _ h => h) (Or.inl ⟨by rfl, fun _ _ => rfl⟩) hHeld ?_
  simp only [List.set_cons_zero, List.set_cons_succ]
  refine wpAnyH_takeD (i := 2) 74 (v := (.int .i64 k)) rfl rfl (by kernel_rfl) (by kernel_rfl) (by kernel_rfl) (fun _ _ _ h => h) (Or.inl ⟨by rfl, fun _ _ => rfl⟩) hHeld ?_
  simp only [List.set_cons_zero, List.set_cons_succ]
  refine wpAnyH_takeD (i := 3) 75 (v := (.int .i64 ((k : Int) + 1))) rfl rfl (by kernel_rfl) (by kernel_rfl) (by kernel_rfl) (fun _ _ _ h => h) (Or.inl ⟨by rfl, fun w' h => by clear h; go_simp; exact IntWalk.i64_in _ ⟨by omega, by omega⟩⟩) hHeld ?_
  simp only [List.set_cons_zero, List.set_cons_succ]
  refine wpAnyH_takeD (i := 4) 76 (v := (.slice aO 1 (c - k))) rfl rfl (by kernel_rfl) (by kernel_rfl) (by kernel_rfl) (fun _ _ _ h => h) (Or.inl ⟨by rfl, fun w' h => by have hq := hsO.out w'; clear h; go_simp⟩) hHeld ?_
  simp only [List.set_cons_zero, List.set_cons_succ]
  refine wpAnyH_takeD (i := 7) 79 (v := (.slice (some ⟨b, o, none⟩) n c)) rfl rfl (by kernel_rfl) (by kernel_rfl) (by kernel_rfl) (fun _ _ _ h => h) (Or.inl ⟨by rfl, fun _ _ => rfl⟩) hHeld ?_
  simp only [List.set_cons_zero, List.set_cons_succ]
  refine wpAnyH_takeD (i := 8) 80 (v := (.int .i64 k)) rfl rfl (by kernel_rfl) (by kernel_rfl) (by kernel_rfl) (fun _ _ _ h => h) (Or.inl ⟨by rfl, fun _ _ => rfl⟩) hHeld ?_
  simp only [List.set_cons_zero, List.set_cons_succ]
  refine wpAnyH_takeD (i := 9) 81 (v := (.pointer (some ⟨b, o + k, none⟩))) rfl rfl (by kernel_rfl) (by kernel_rfl) (by kernel_rfl) (fun _ _ _ h => h) (Or.inl ⟨by rfl, fun w' h => by clear h; go_simp⟩) hHeld ?_
  simp only [List.set_cons_zero, List.set_cons_succ]
  refine wpAnyH_takeD (i := 10) 82 (v := (.int .i64 (X k))) rfl rfl (by kernel_rfl) (by kernel_rfl) (by kernel_rfl) (fun _ _ _ h => h) (Or.inl ⟨by rfl, fun w' h => by have hq := (h.cell (p := ⟨b, o + k, none⟩) hl.out).trans c0.out; clear h; go_simp⟩) hHeld ?_
  simp only [List.set_cons_zero, List.set_cons_succ]
  have hN1 : NN (fun j => X (k + j)) 1 := fun j hj => hNX.out (k + j) (by omega)
  replace hN1 : Hid (NN (fun j => X (k + j)) 1) := hN1
  refine wpAnyH_ready (rs := [5]) (by kernel_rfl) (by simp) ?_
  refine AllReadyH.cons rfl (fun K hK => ?_) AllReadyH.nil
  go_simp
  refine (podOf_any (fun j => X (k + j)) (fun _ => (0 : Int)) aO none 1 (c - k) 0 0 _ (by omega) (by omega) (hpO.out _ (fun j => iL (X j)) (hp.out.below hHeld)) (fun h => absurd h (by omega)) (I64_of_NN hN1.out) (I64_of_NN (fun j hj => absurd hj (by omega)))).mono ?_
  rintro e v8 ⟨g8, rfl, hpod, hb8⟩
  refine hK.out _ _ (hHeld.trans (hb8.mono hHeld.size)) (fun hHeld1 => ?_)
  clear hK K
  refine wpAnyH_ready (rs := [6]) (by kernel_rfl) (by simp) ?_
  refine AllReadyH.cons rfl (fun K hK => ?_) AllReadyH.nil
  go_simp
  refine (reqCPU_any g8 (fun j => X (k + j)) 1 (fun _ => (0 : Int)) 0 _ (by omega) (by omega) hpod hN1.out (fun j hj => absurd hj (by omega))).mono ?_
  rintro e v9 ⟨rfl, rfl⟩
  rw [reqV_one (hNX.out k hkl)]
  refine hK.out _ _ hHeld1 (fun hHeld2 => ?_)
  clear hK K hpod hb8
  refine wpAnyH_takeD (i := 11) 83 (v := (.bool false)) rfl rfl (by kernel_rfl) (by kernel_rfl) (by kernel_rfl) (fun _ _ _ h => h) (Or.inl ⟨by rfl, fun w' h => by clear h; go_simp⟩) hHeld2 ?_
  simp only [List.set_cons_zero, List.set_cons_succ]
  refine wpAnyH_done (by kernel_rfl) ?_ _
  replace hB : Hid (Below w3.heap.size w3 v9) := hB.out.trans (hHeld2.mono hB.out.size)
  clear hHeld hHeld1 hHeld2
  go_wp2
  go_ret
  exact ⟨rfl, hB.out⟩
end Go.Proofs.Qxb6608834a
